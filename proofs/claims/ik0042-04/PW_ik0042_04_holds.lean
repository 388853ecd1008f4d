import PyProof.Rows.All
import Wide.All
import OpenK.AllK
import Wide.FinOn
import PySem.Challenge.RW_ik0042_04
set_option Elab.async false
set_option autoImplicit false
set_option linter.all false

namespace Mine
open PySem PySem.W PyProof.Rows

/-! ## values up to tokens, abstract objects -/
noncomputable def er : Value → Value
  | .int i _ => .int i 0
  | .float b _ => .float b 0
  | .str s _ => .str s 0
  | .bytes b _ => .bytes b 0
  | v => v
noncomputable abbrev vI (i : Int) : Value := .int i 0

@[simp] theorem er_none : er .none = .none := rfl
@[simp] theorem er_bool (b : Bool) : er (.bool b) = .bool b := rfl
@[simp] theorem er_int (i : Int) (t : Tok) : er (.int i t) = .int i 0 := rfl
@[simp] theorem er_ref (a : Addr) : er (.ref a) = .ref a := rfl
@[simp] theorem er_type (n : String) : er (.type n) = .type n := rfl
@[simp] theorem er_builtin (n : String) : er (.builtin n) = .builtin n := rfl
theorem er_eq_none {v : Value} (h : er v = .none) : v = .none := by cases v <;> simp [er] at h ⊢
theorem er_eq_bool {v : Value} {b : Bool} (h : er v = .bool b) : v = .bool b := by cases v <;> simp [er] at h ⊢; exact h
theorem er_eq_ref {v : Value} {a : Addr} (h : er v = .ref a) : v = .ref a := by cases v <;> simp [er] at h ⊢; exact h
theorem er_eq_int {v : Value} {i : Int} (h : er v = .int i 0) : ∃ t, v = .int i t := by cases v <;> simp [er] at h ⊢; exact h
theorem er_eq_type {v : Value} {n : String} (h : er v = .type n) : v = .type n := by cases v <;> simp [er] at h ⊢; exact h
theorem er_eq_builtin {v : Value} {n : String} (h : er v = .builtin n) : v = .builtin n := by cases v <;> simp [er] at h ⊢; exact h

inductive AO where
  | list (xs : List Value)
  | tup (xs : List Value)
  | dict (kvs : List (Int × Value)) (ep : Nat)
  | set (ks : List Int)
  | ns (fs : List (PySem.Str × Value))
  | inst (C : Addr) (d : Option Addr) (sl : List (Option Value))
  | flds (cls : Value) (vs : List Value)
  | exc (cls : Value) (tb : Value)
  | tb (fl : Value)

structure Cfg where
  prog : Program
  w : World
  h₀ : Heap
  os : OsState

noncomputable def DictIs (C : Cfg) (es : Array DictEntry) (kvs : List (Int × Value)) : Prop :=
  KeysOf (intKind C.prog C.w) es ∧ (kvs.map (·.1)).Nodup ∧ ∃ raw, Pairs (intKind C.prog C.w) es.toList raw ∧ raw.map (fun kv => (kv.1, er kv.2)) = kvs

noncomputable def OR (C : Cfg) (o : Obj) : AO → Prop
  | .list xs => o.cls = .type "list" ∧ (o.dict = none ∧ o.slots = #[]) ∧ ∃ vs n, o.data = .seq vs n ∧ vs.toList.map er = xs
  | .tup xs => o.cls = .type "tuple" ∧ (o.dict = none ∧ o.slots = #[]) ∧ ∃ vs n, o.data = .seq vs n ∧ vs.toList.map er = xs
  | .dict kvs ep => o.ExactDict ∧ ∃ es, o.data = .dict es ep ∧ DictIs C es kvs
  | .set ks => o.ExactSet ∧ ∃ es ep t, o.data = .set es ep t ∧ ElemsOf (intKind C.prog C.w) es.toList ∧ (∀ k, decide (k ∈ ks) = true ↔ ∃ e ∈ es.toList, (intKind C.prog C.w).is k e.2 = true) ∧ es.size < scanBound ∧ t.fits es.size = true ∧ es.size ≤ ks.length
  | .ns fs => ∃ es n, o.data = .dict es n ∧ StrKeys es ∧ UniqKeys es ∧ ∀ y, (nsFind es y).map er = fs.lookup y
  | .inst K d sl => o.cls = .ref K ∧ o.dict = d ∧ o.data = .plain ∧ o.slots.toList.map (Option.map er) = sl
  | .flds cls vs => o.cls = cls ∧ (o.dict = none ∧ o.slots = #[]) ∧ ∃ ws, o.data = .fields ws ∧ ws.toList.map er = vs
  | .exc cls tb => o.cls = cls ∧ ∃ ws a0, o.data = .fields ws ∧ ws[0]? = some a0 ∧ ws[1]? = some tb
  | .tb fl => ∃ ws, o.data = .fields ws ∧ ws[3]? = some fl

noncomputable abbrev AH := List (Addr × AO)
noncomputable abbrev Lo := List (PySem.Str × Value)

noncomputable def AH.keys (H : AH) : List Addr := H.map (·.1)
noncomputable def AH.put (H : AH) (a : Addr) (o : AO) : AH := H.map fun p => if p.1 = a then (a, o) else p

theorem AH.keys_put (H : AH) (a : Addr) (o : AO) : (H.put a o).keys = H.keys := by
  simp only [AH.keys, AH.put, List.map_map]
  refine List.map_congr_left fun p _ => ?_
  simp only [Function.comp]
  split
  · rename_i h; exact h.symm
  · rfl

structure Fx where
  env : Env
  W : List Addr

noncomputable def Own (fx : Fx) (x : PySem.Str) : Prop := fx.env.kindOf x = some .local ∨ (fx.env.kindOf x = some .cell ∧ ∀ c, fx.env.cells.lookup x = some c → c ∈ fx.W)

noncomputable def VarAt (env : Env) (h : Heap) (x : PySem.Str) (v : Value) : Prop :=
  (env.kindOf x = some .local ∧ ∃ mr r, h.Ns env.locals mr ∧ mr x = some r ∧ er r = v) ∨
  ((env.kindOf x = some .cell ∨ env.kindOf x = some .free) ∧ ∃ c r, env.cells.lookup x = some c ∧ h.IsCell c (some r) ∧ er r = v)

noncomputable def frameAddrs (A : Around) : List Addr := (A.frames.getD []).filterMap (·.frame)

structure St (C : Cfg) (A : Around) (fx : Fx) (m : Lo) (H : AH) (s : Shared) : Prop where
  base : ∀ b o, C.h₀.get? b = some o → s.heap.get? b = some o
  cells : ∀ p ∈ H, ∃ o, s.heap.get? p.1 = some o ∧ OR C o p.2
  low : (∃ o, C.h₀.get? mainGlobals = some o) ∧ ∃ o, C.h₀.get? sysModules = some o
  above : ∀ b, (b ∈ H.keys ∨ b ∈ fx.W) → C.h₀.get? b = none
  nodup : H.keys.Nodup
  apart : ∀ b ∈ fx.W, b ∉ H.keys
  kind : fx.env.scope.kind = .function
  glob : fx.env.globals = mainGlobals ∧ fx.env.builtins = builtinsNs
  locW : fx.env.locals ∈ fx.W
  wlt : ∀ b ∈ fx.W, ∃ o, s.heap.get? b = some o
  loc : ∃ mr, s.heap.Ns fx.env.locals mr
  cellW : ∀ x, fx.env.kindOf x = some .cell → ∃ c, fx.env.cells.lookup x = some c
  cellA : ∀ x c, fx.env.cells.lookup x = some c → (∃ r, s.heap.IsCell c r) ∧ c ∉ H.keys ∧ C.h₀.get? c = none ∧ c ≠ fx.env.locals
  cellI : ∀ x y c, fx.env.cells.lookup x = some c → fx.env.cells.lookup y = some c → x = y
  vars : ∀ x v, (x, v) ∈ m → VarAt fx.env s.heap x v
  frs : ∃ l, A.frames = some l ∧ s.heap.FunFrames C.h₀ l
  frA : ∀ b ∈ frameAddrs A, b ∉ H.keys
  gens : AllBare s.gens
  os : s.os = C.os

structure Ext (A : Around) (fx : Fx) (H : AH) (s : Shared) (H' : AH) (s' : Shared) : Prop where
  fresh : ∀ b ∈ H'.keys, b ∈ H.keys ∨ s.heap.get? b = none
  hid : ∀ b o, s.heap.get? b = some o → b ∉ H.keys → b ∉ fx.W → ∃ sl, s'.heap.get? b = some { o with slots := sl } ∧ (b ∉ frameAddrs A → sl = o.slots)
  wapart : ∀ b ∈ fx.W, b ∉ H'.keys

theorem Ext.refl' {C : Cfg} {A : Around} {fx : Fx} {m : Lo} {H : AH} {s : Shared} (S : St C A fx m H s) : Ext A fx H s H s :=
  ⟨fun _ h => .inl h, fun _ o e _ _ => ⟨o.slots, e, fun _ => rfl⟩, S.apart⟩

theorem Ext.trans {A : Around} {fx : Fx} {H H' H'' : AH} {s s' s'' : Shared} (x : Ext A fx H s H' s') (y : Ext A fx H' s' H'' s'') : Ext A fx H s H'' s'' := by
  have nk : ∀ b o, s.heap.get? b = some o → b ∉ H.keys → b ∉ H'.keys := fun b o e hk hm => by
    rcases x.fresh b hm with h | h
    · exact hk h
    · rw [e] at h; cases h
  refine ⟨fun b hb => ?_, fun b o e hk hw => ?_, y.wapart⟩
  · rcases y.fresh b hb with h | h
    · exact x.fresh b h
    · by_cases hk : b ∈ H.keys
      · exact .inl hk
      · refine .inr ?_
        cases q : s.heap.get? b with
        | none => rfl
        | some o =>
          obtain ⟨sl, e1, _⟩ := x.hid b o q hk fun hw => y.wapart b hw hb
          rw [e1] at h; cases h
  · obtain ⟨sl, e1, h1⟩ := x.hid b o e hk hw
    obtain ⟨sl', e2, h2⟩ := y.hid b _ e1 (nk b o e hk) hw
    refine ⟨sl', e2, fun hf => ?_⟩
    rw [h2 hf, ← h1 hf]

/-! ## the abstract weakest precondition -/
noncomputable def AW {α : Type} (C : Cfg) (A : Around) (fx : Fx) (t : Sem α) (m : Lo) (H : AH) (Q : α → Lo → AH → Prop) (X : Value → Lo → AH → Prop) : Prop :=
  ∀ s, St C A fx m H s → wpAny (model C.prog C.w) A t
    (fun v s' => ∃ m' H', St C A fx m' H' s' ∧ Ext A fx H s H' s' ∧ Q v m' H')
    (fun e s' => ∃ m' H', St C A fx m' H' s' ∧ Ext A fx H s H' s' ∧ X e m' H') s

noncomputable abbrev noX : Value → Lo → AH → Prop := fun _ _ _ => False

section
variable {α β : Type} {C : Cfg} {A : Around} {fx : Fx} {m : Lo} {H : AH} {X : Value → Lo → AH → Prop}

theorem aw_pure {a : α} {Q : α → Lo → AH → Prop} (h : Q a m H) : AW C A fx (pure a) m H Q X :=
  fun s S => wpAny_pure ⟨m, H, S, Ext.refl' S, h⟩
theorem aw_bind {t : Sem α} {f : α → Sem β} {Q : β → Lo → AH → Prop} (h : AW C A fx t m H (fun a m' H' => AW C A fx (f a) m' H' Q X) X) : AW C A fx (t >>= f) m H Q X := by
  intro s S
  refine wpAny_bind (wpAny_mono (h s S) (fun a s' h' => ?_) fun _ _ h' => h')
  obtain ⟨m', H', S', E', hq⟩ := h'
  refine wpAny_mono (hq s' S') (fun b s'' h'' => ?_) (fun e s'' h'' => ?_)
  · obtain ⟨m'', H'', S'', E'', q⟩ := h''; exact ⟨m'', H'', S'', E'.trans E'', q⟩
  · obtain ⟨m'', H'', S'', E'', q⟩ := h''; exact ⟨m'', H'', S'', E'.trans E'', q⟩
theorem aw_mono {t : Sem α} {Q Q' : α → Lo → AH → Prop} {X' : Value → Lo → AH → Prop} (h : AW C A fx t m H Q X) (hQ : ∀ a m' H', Q a m' H' → Q' a m' H') (hX : ∀ e m' H', X e m' H' → X' e m' H') : AW C A fx t m H Q' X' :=
  fun s S => wpAny_mono (h s S) (fun a s' h' => by obtain ⟨m', H', S', E', q⟩ := h'; exact ⟨m', H', S', E', hQ _ _ _ q⟩)
    fun e s' h' => by obtain ⟨m', H', S', E', q⟩ := h'; exact ⟨m', H', S', E', hX _ _ _ q⟩
theorem aw_holding {vs : List Value} {t : Sem α} {Q : α → Lo → AH → Prop} (h : AW C A fx t m H Q X) : AW C A fx (holding vs t) m H Q X :=
  fun s S => wpAny_holding (h s S)
theorem aw_rule {tag : String} {Q : Unit → Lo → AH → Prop} (h : Q () m H) : AW C A fx (rule tag) m H Q X := fun s S => wpAny_rule ⟨m, H, S, Ext.refl' S, h⟩
theorem aw_standAt {pos : Pos} {Q : Unit → Lo → AH → Prop} (h : Q () m H) : AW C A fx (standAt pos) m H Q X := fun s S => wpAny_standAt ⟨m, H, S, Ext.refl' S, h⟩
theorem aw_point {Q : Unit → Lo → AH → Prop} (h : Q () m H) : AW C A fx point m H Q X := fun s S => wpAny_point ⟨m, H, S, Ext.refl' S, h⟩
theorem aw_look {t : Sem α} {Q : α → Lo → AH → Prop} (a : α) (ht : ∀ s, St C A fx m H s → ∀ Q' E', Q' a s → wpAny (model C.prog C.w) A t Q' E' s) (h : Q a m H) : AW C A fx t m H Q X :=
  fun s S => ht s S _ _ ⟨m, H, S, Ext.refl' S, h⟩
end
end Mine

namespace Mine
open PySem PySem.W PyProof.Rows

theorem mem_keys {H : AH} {p : Addr × AO} (h : p ∈ H) : p.1 ∈ H.keys := List.mem_map_of_mem h

noncomputable def KeptS (A : Around) (o : Obj) (b : Addr) (h' : Heap) : Prop := ∃ sl, h'.get? b = some { o with slots := sl } ∧ (b ∉ frameAddrs A → sl = o.slots)
theorem KeptS.of_keep {A : Around} {o : Obj} {b : Addr} {h' : Heap} (e : h'.get? b = some o) : KeptS A o b h' := ⟨o.slots, e, fun _ => rfl⟩

theorem ns_kept {h h' : Heap} {a : Addr} {mr : PySem.Str → Option Value} (hn : h.Ns a mr) (hk : ∀ o, h.get? a = some o → ∃ sl, h'.get? a = some { o with slots := sl }) : h'.Ns a mr := by
  obtain ⟨o, es, ep, ho, hd, r⟩ := hn
  obtain ⟨sl, e⟩ := hk o ho
  exact ⟨_, es, ep, e, hd, r⟩
theorem cell_kept {h h' : Heap} {c : Addr} {v : Option Value} (hc : h.IsCell c v) (hk : ∀ o, h.get? c = some o → ∃ sl, h'.get? c = some { o with slots := sl }) : h'.IsCell c v := by
  obtain ⟨o, ho, hd⟩ := hc
  obtain ⟨sl, e⟩ := hk o ho
  exact ⟨_, e, hd⟩

section
variable {C : Cfg} {A : Around} {fx : Fx} {m : Lo} {H H' : AH} {s s' : Shared}

theorem none_of_le {h : Heap} {b : Addr} (hb : h.objs.size ≤ b) : h.get? b = none := by
  cases q : h.get? b with
  | none => rfl
  | some o => exact absurd (Heap.lt_size q) (Nat.not_lt.mpr hb)
theorem St.above' (S : St C A fx m H s) {b : Addr} (h : b ∈ H.keys ∨ b ∈ fx.W) : C.h₀.get? b = none := S.above b h
theorem St.base_none (S : St C A fx m H s) {b : Addr} (h : s.heap.get? b = none) : C.h₀.get? b = none := by
  cases q : C.h₀.get? b with
  | none => rfl
  | some o => rw [S.base b o q] at h; cases h
theorem St.low_lt (S : St C A fx m H s) {h : Heap} (hk : ∀ b o, C.h₀.get? b = some o → h.get? b = some o) : sysModules < h.objs.size := by
  obtain ⟨_, o, ho⟩ := S.low
  exact Heap.lt_size (hk _ _ ho)
theorem St.key_lt (S : St C A fx m H s) {b : Addr} (h : b ∈ H.keys) : b < s.heap.objs.size := by
  obtain ⟨p, hp, rfl⟩ := List.mem_map.mp h
  obtain ⟨o, ho, _⟩ := S.cells p hp
  exact Heap.lt_size ho
theorem St.get (S : St C A fx m H s) {a : Addr} {ao : AO} (h : (a, ao) ∈ H) : ∃ o, s.heap.get? a = some o ∧ OR C o ao := S.cells _ h

theorem vars_kept {env : Env} {h h' : Heap} {x : PySem.Str} {v : Value} (hv : VarAt env h x v)
    (hl : ∀ o, h.get? env.locals = some o → ∃ sl, h'.get? env.locals = some { o with slots := sl })
    (hc : ∀ c, env.cells.lookup x = some c → ∀ o, h.get? c = some o → ∃ sl, h'.get? c = some { o with slots := sl }) : VarAt env h' x v := by
  rcases hv with ⟨k, mr, r, hn, e1, e2⟩ | ⟨k, c, r, e1, e2, e3⟩
  · exact .inl ⟨k, mr, r, ns_kept hn hl, e1, e2⟩
  · exact .inr ⟨k, c, r, e1, cell_kept e2 (hc c e1), e3⟩

theorem St.upd (S : St C A fx m H s)
    (hk : ∀ b o, s.heap.get? b = some o → b ∉ H.keys → KeptS A o b s'.heap)
    (hc : ∀ p ∈ H', ∃ o, s'.heap.get? p.1 = some o ∧ OR C o p.2) (hf : ∀ b ∈ H'.keys, b ∈ H.keys ∨ s.heap.get? b = none) (hn : H'.keys.Nodup)
    (hg : AllBare s'.gens) (hos : s'.os = s.os) : St C A fx m H' s' ∧ Ext A fx H s H' s' := by
  have nk : ∀ b o, s.heap.get? b = some o → b ∉ H.keys → b ∉ H'.keys := fun b o e hh hm => by
    rcases hf b hm with h | h
    · exact hh h
    · rw [e] at h; cases h
  have locK : ∀ o, s.heap.get? fx.env.locals = some o → ∃ sl, s'.heap.get? fx.env.locals = some { o with slots := sl } := fun o e => by
    obtain ⟨sl, e', _⟩ := hk _ _ e (S.apart _ S.locW)
    exact ⟨sl, e'⟩
  have cellK : ∀ x c, fx.env.cells.lookup x = some c → ∀ o, s.heap.get? c = some o → ∃ sl, s'.heap.get? c = some { o with slots := sl } := fun x c e o ho => by
    obtain ⟨sl, e', _⟩ := hk _ _ ho (S.cellA x c e).2.1
    exact ⟨sl, e'⟩
  have wa : ∀ b ∈ fx.W, b ∉ H'.keys := fun b hb => by
    obtain ⟨o, e⟩ := S.wlt b hb
    exact nk b o e (S.apart b hb)
  refine ⟨⟨fun b o e => ?_, hc, S.low, fun b hb => ?_, hn, wa, S.kind, S.glob, S.locW, fun b hb => ?_, ?_, S.cellW, fun x c e => ?_, S.cellI, fun x v hv => ?_, ?_, fun b hb => ?_, hg, hos.trans S.os⟩,
    ⟨hf, fun b o e h1 _ => hk b o e h1, wa⟩⟩
  · have h1 : b ∉ H.keys := fun hm => by rw [S.above' (.inl hm)] at e; cases e
    have h2 : b ∉ frameAddrs A := fun hm => by
      obtain ⟨l, hl, hF⟩ := S.frs
      unfold frameAddrs at hm
      rw [hl] at hm
      rw [(hF.mem hm).1] at e
      cases e
    obtain ⟨sl, e', hs⟩ := hk b o (S.base b o e) h1
    rw [e', hs h2]
  · rcases hb with hb | hb
    · rcases hf b hb with h | h
      · exact S.above b (.inl h)
      · exact S.base_none h
    · exact S.above b (.inr hb)
  · obtain ⟨o, e⟩ := S.wlt b hb
    obtain ⟨sl, e', _⟩ := hk b o e (S.apart b hb)
    exact ⟨_, e'⟩
  · obtain ⟨mr, hm⟩ := S.loc
    exact ⟨mr, ns_kept hm locK⟩
  · obtain ⟨⟨r, hr⟩, h1, h2, h3⟩ := S.cellA x c e
    obtain ⟨o, ho, _⟩ := id hr
    exact ⟨⟨r, cell_kept hr (cellK x c e)⟩, nk c o ho h1, h2, h3⟩
  · exact vars_kept (S.vars x v hv) locK (cellK x)
  · obtain ⟨l, hl, hF⟩ := S.frs
    refine ⟨l, hl, ?_⟩
    clear hc hf hn nk wa
    have hA : ∀ b ∈ l.filterMap (·.frame), b ∉ H.keys := fun b hb => S.frA b (by unfold frameAddrs; rw [hl]; exact hb)
    clear hl
    induction l with
    | nil => trivial
    | cons env rest ih =>
      obtain ⟨h1, ⟨L, o, hL, hb, ho, hd⟩, hr⟩ := hF
      have hLk : L ∉ H.keys := hA L (by simp [hL])
      obtain ⟨sl, e', _⟩ := hk L o ho hLk
      refine ⟨h1, ⟨L, _, hL, hb, e', fun vs => hd vs⟩, ih hr fun b hb => hA b ?_⟩
      rw [List.filterMap_cons, hL]
      exact List.mem_cons_of_mem _ hb
  · have h1 := S.frA b hb
    obtain ⟨l, hl, hF⟩ := S.frs
    have hb' := hb
    unfold frameAddrs at hb'
    rw [hl] at hb'
    obtain ⟨_, o, ho, _⟩ := hF.mem hb'
    exact nk b o ho h1

theorem St.keeps (S : St C A fx m H s) (hk : ∀ b o, s.heap.get? b = some o → s'.heap.get? b = some o) (hg : s'.gens = s.gens := by rfl) (hos : s'.os = s.os := by rfl) :
    St C A fx m H s' ∧ Ext A fx H s H s' :=
  S.upd (fun b o e _ => .of_keep (hk b o e)) (fun p hp => let ⟨o, h1, h2⟩ := S.cells p hp; ⟨o, hk _ _ h1, h2⟩) (fun _ h => .inl h) S.nodup (hg ▸ S.gens) hos
theorem St.toks (S : St C A fx m H s) (t : Nat) : St C A fx m H { s with toks := t } ∧ Ext A fx H s H { s with toks := t } := S.keeps fun _ _ e => e

theorem St.new (S : St C A fx m H s) {a : Addr} {o : Obj} {ao : AO} (ha : s.heap.get? a = none) (hk : ∀ b o, s.heap.get? b = some o → s'.heap.get? b = some o)
    (ho : s'.heap.get? a = some o) (hr : OR C o ao) (hg : s'.gens = s.gens := by rfl) (hos : s'.os = s.os := by rfl) : St C A fx m ((a, ao) :: H) s' ∧ Ext A fx H s ((a, ao) :: H) s' := by
  have hna : a ∉ H.keys := fun hm => by
    obtain ⟨p, hp, rfl⟩ := List.mem_map.mp hm
    obtain ⟨o, ho, _⟩ := S.cells p hp
    rw [ho] at ha; cases ha
  refine S.upd (fun b o e _ => .of_keep (hk b o e)) (fun p hp => ?_) (fun b hb => ?_) ?_ (hg ▸ S.gens) hos
  · rcases List.mem_cons.mp hp with rfl | hp
    · exact ⟨o, ho, hr⟩
    · obtain ⟨o', h1, h2⟩ := S.cells p hp
      exact ⟨o', hk _ _ h1, h2⟩
  · rcases List.mem_cons.mp hb with rfl | hb
    · exact .inr ha
    · exact .inl hb
  · exact List.nodup_cons.mpr ⟨hna, S.nodup⟩
theorem St.push (S : St C A fx m H s) {o : Obj} {ao : AO} (hr : OR C o ao) (hf : o.isFreed = false := by rfl) :
    St C A fx m ((s.heap.objs.size, ao) :: H) { s with heap := s.heap.push o } ∧ Ext A fx H s ((s.heap.objs.size, ao) :: H) { s with heap := s.heap.push o } :=
  S.new (none_of_le (Nat.le_refl _)) (fun b o' e => Heap.get?_push_of_some _ e) (Heap.get?_push_size _ hf) hr

theorem mem_put {H : AH} {a : Addr} {o : AO} {p : Addr × AO} (hp : p ∈ H.put a o) : (p = (a, o)) ∨ (p.1 ≠ a ∧ p ∈ H) := by
  obtain ⟨q, hq, rfl⟩ := List.mem_map.mp hp
  by_cases h : q.1 = a
  · rw [if_pos h]; exact .inl rfl
  · rw [if_neg h]; exact .inr ⟨h, hq⟩
theorem St.write (S : St C A fx m H s) {a : Addr} {o' : Obj} {ao ao' : AO} (ha : (a, ao) ∈ H) (hs : Heap.SameBut a s.heap s'.heap) (ho : s'.heap.get? a = some o') (hr : OR C o' ao')
    (hg : s'.gens = s.gens := by rfl) (hos : s'.os = s.os := by rfl) : St C A fx m (H.put a ao') s' ∧ Ext A fx H s (H.put a ao') s' := by
  refine S.upd (fun b o e hb => .of_keep ((hs.2 b fun q => hb (q ▸ mem_keys ha)).trans e)) (fun p hp => ?_) (fun b hb => .inl (by rw [AH.keys_put] at hb; exact hb)) (by rw [AH.keys_put]; exact S.nodup) (hg ▸ S.gens) hos
  rcases mem_put hp with rfl | ⟨h1, h2⟩
  · exact ⟨o', ho, hr⟩
  · obtain ⟨o, e1, e2⟩ := S.cells p h2
    exact ⟨o, (hs.2 _ h1).trans e1, e2⟩

theorem St.sub (S : St C A fx m H s) (hp : ∀ p ∈ H', p ∈ H) (hn : H'.keys.Nodup) : St C A fx m H' s ∧ Ext A fx H s H' s :=
  S.upd (fun b o e _ => .of_keep e) (fun p h => S.cells p (hp p h)) (fun b hb => by obtain ⟨p, h, rfl⟩ := List.mem_map.mp hb; exact .inl (mem_keys (hp p h))) hn S.gens rfl
end

section
variable {α : Type} {C : Cfg} {A : Around} {fx : Fx} {m m' : Lo} {H H' : AH} {X : Value → Lo → AH → Prop}

theorem St.lo {s : Shared} (S : St C A fx m H s) (hm : ∀ x v, (x, v) ∈ m' → (x, v) ∈ m) : St C A fx m' H s := { S with vars := fun x v h => S.vars x v (hm x v h) }
theorem aw_forget {t : Sem α} {Q : α → Lo → AH → Prop} (h : AW C A fx t m H (fun a m' H' => ∃ H'' : AH, H''.Sublist H' ∧ Q a m' H'') X) : AW C A fx t m H Q X := by
  intro s S
  refine wpAny_mono (h s S) (fun a s' h' => ?_) fun _ _ h' => h'
  obtain ⟨m₁, H₁, S₁, E₁, H₂, hs, q⟩ := h'
  obtain ⟨S₂, E₂⟩ := S₁.sub (H' := H₂) (fun p hp => hs.subset hp) (S₁.nodup.sublist (hs.map _))
  exact ⟨m₁, H₂, S₂, E₁.trans E₂, q⟩
theorem aw_nodup {t : Sem α} {Q : α → Lo → AH → Prop} (h : H.keys.Nodup → AW C A fx t m H Q X) : AW C A fx t m H Q X := fun s S => h S.nodup s S
end
end Mine

namespace Mine
open PySem PySem.W PyProof.Rows
open Sem (wp)

noncomputable def Lo.put (m : Lo) (x : PySem.Str) (v : Value) : Lo := (x, v) :: m.filter fun p => !(p.1 == x)
theorem lookup_mem {m : Lo} {x : PySem.Str} {v : Value} (h : m.lookup x = some v) : (x, v) ∈ m := by
  induction m with
  | nil => cases h
  | cons p r ih =>
    obtain ⟨y, w⟩ := p
    rw [List.lookup_cons] at h
    split at h
    · rename_i e; rw [eq_of_beq e]; cases h; exact .head _
    · exact .tail _ (ih h)
noncomputable def erF : Flow → Flow
  | .ret v => .ret (er v)
  | f => f

section
variable {α : Type} {C : Cfg} {A : Around} {fx : Fx} {m m' : Lo} {H H' : AH} {X : Value → Lo → AH → Prop}

/-! ### the judgements -/
noncomputable abbrev EV (C : Cfg) (A : Around) (fx : Fx) (e : PySem.Expr) (m : Lo) (H : AH) (Q : Value → Lo → AH → Prop) (X : Value → Lo → AH → Prop) : Prop := AW C A fx (eval e fx.env) m H (fun v => Q (er v)) X
noncomputable abbrev IT (C : Cfg) (A : Around) (fx : Fx) (e : PySem.Expr) (m : Lo) (H : AH) (Q : Bool → Lo → AH → Prop) (X : Value → Lo → AH → Prop) : Prop := AW C A fx (isTrue e fx.env (eval e fx.env)) m H Q X
noncomputable abbrev EX (C : Cfg) (A : Around) (fx : Fx) (st : Stmt) (m : Lo) (H : AH) (Q : Flow → Lo → AH → Prop) (X : Value → Lo → AH → Prop) : Prop := AW C A fx (exec st fx.env) m H (fun f => Q (erF f)) X
noncomputable abbrev EXS (C : Cfg) (A : Around) (fx : Fx) (st : List Stmt) (m : Lo) (H : AH) (Q : Flow → Lo → AH → Prop) (X : Value → Lo → AH → Prop) : Prop := AW C A fx (execs st fx.env) m H (fun f => Q (erF f)) X
noncomputable def BO (C : Cfg) (A : Around) (fx : Fx) (op : Operator) (x y : Value) (m : Lo) (H : AH) (Q : Value → Lo → AH → Prop) (X : Value → Lo → AH → Prop) : Prop := ∀ a b, er a = x → er b = y → AW C A fx (binaryOp op a b) m H (fun v => Q (er v)) X
noncomputable def IO (C : Cfg) (A : Around) (fx : Fx) (op : Operator) (x y : Value) (m : Lo) (H : AH) (Q : Value → Lo → AH → Prop) (X : Value → Lo → AH → Prop) : Prop := ∀ a b, er a = x → er b = y → AW C A fx (inplaceOp op a b) m H (fun v => Q (er v)) X
noncomputable def CO (C : Cfg) (A : Around) (fx : Fx) (op : CmpOp) (x y : Value) (m : Lo) (H : AH) (Q : Value → Lo → AH → Prop) (X : Value → Lo → AH → Prop) : Prop := ∀ a b, er a = x → er b = y → AW C A fx (compareOp op a b) m H (fun v => Q (er v)) X
noncomputable def TR (C : Cfg) (A : Around) (fx : Fx) (x : Value) (m : Lo) (H : AH) (Q : Bool → Lo → AH → Prop) (X : Value → Lo → AH → Prop) : Prop := ∀ a, er a = x → AW C A fx (truthy a) m H Q X
noncomputable def GA (C : Cfg) (A : Around) (fx : Fx) (x : Value) (n : PySem.Str) (m : Lo) (H : AH) (Q : Value → Lo → AH → Prop) (X : Value → Lo → AH → Prop) : Prop := ∀ a, er a = x → AW C A fx (getAttr a n true) m H (fun v => Q (er v)) X
noncomputable def SA (C : Cfg) (A : Around) (fx : Fx) (x : Value) (n : PySem.Str) (y : Value) (m : Lo) (H : AH) (Q : Lo → AH → Prop) (X : Value → Lo → AH → Prop) : Prop := ∀ a b, er a = x → er b = y → AW C A fx (setAttr a n b) m H (fun _ => Q) X
noncomputable def SI (C : Cfg) (A : Around) (fx : Fx) (x i y : Value) (m : Lo) (H : AH) (Q : Lo → AH → Prop) (X : Value → Lo → AH → Prop) : Prop := ∀ a b c, er a = x → er b = i → er c = y → AW C A fx (setItem a b c) m H (fun _ => Q) X
noncomputable def CALL (C : Cfg) (A : Around) (fx : Fx) (f : Value) (xs : List Value) (m : Lo) (H : AH) (Q : Value → Lo → AH → Prop) (X : Value → Lo → AH → Prop) : Prop := ∀ g vs, er g = f → vs.map er = xs → AW C A fx (call g vs) m H (fun v => Q (er v)) X

/-! ### noise -/
theorem aw_operate {vs : List Value} {t : Sem Value} {Q : Value → Lo → AH → Prop} (h : AW C A fx t m H Q X) : AW C A fx (operate vs t) m H Q X :=
  fun s S Γ p hΓ => by rw [Sem.wp_operate]; exact h s S Γ p hΓ
theorem aw_release {vs ks : List Value} {Q : Unit → Lo → AH → Prop} (h : Q () m H) : AW C A fx (release vs ks) m H Q X :=
  fun s S Γ p hΓ => by rw [Sem.wp_release]; exact ⟨m, H, S, Ext.refl' S, h⟩
theorem aw_keep {vs : List Value} {t : Sem α} {Q : α → Lo → AH → Prop} (h : AW C A fx t m H Q X) : AW C A fx (t.keep vs) m H Q X :=
  fun s S Γ p hΓ => by rw [Sem.wp_keep]; exact h s S Γ p hΓ
theorem aw_bindName {x : PySem.Str} {v : Value} {Q : Unit → Lo → AH → Prop} (h : AW C A fx (storeName fx.env x v) m H Q X) : AW C A fx (bindName fx.env x v) m H Q X :=
  fun s S => wpAny_bindName (h s S)
theorem aw_fresh {Q : Tok → Lo → AH → Prop} (h : ∀ t, Q t m H) : AW C A fx fresh m H Q X := fun s S Γ p hΓ => ⟨m, H, (S.toks _).1, (S.toks _).2, h _⟩
theorem aw_mkInt {i : Int} {Q : Value → Lo → AH → Prop} (h : ∀ t, Q (.int i t) m H) : AW C A fx (mkInt i) m H Q X := aw_bind (aw_fresh fun t => aw_pure (h t))
theorem aw_mkText {x : PySem.Str} {Q : Value → Lo → AH → Prop} (h : ∀ t, Q (.str x t) m H) : AW C A fx (mkText x) m H Q X := aw_bind (aw_fresh fun t => aw_pure (h t))
theorem exs_nil {Q : Flow → Lo → AH → Prop} (h : Q .next m H) : EXS C A fx [] m H Q X := aw_pure h
theorem exs_cons {st : Stmt} {r : List Stmt} {Q : Flow → Lo → AH → Prop} (h : EX C A fx st m H (fun f m' H' => match f with | .next => EXS C A fx r m' H' Q X | f => Q f m' H') X) : EXS C A fx (st :: r) m H Q X := by
  show AW C A fx (exec st fx.env >>= _) m H _ X
  refine aw_bind (aw_mono h (fun f m' H' hf => ?_) fun _ _ _ x => x)
  cases f with
  | next => exact hf
  | brk => exact aw_pure hf
  | cont => exact aw_pure hf
  | ret v => exact aw_pure hf

/-! ### names -/
theorem aw_load {x : PySem.Str} {v : Value} {Q : Value → Lo → AH → Prop} (hv : m.lookup x = some v) (h : ∀ r, er r = v → Q r m H) (hn : (x == ("__classdict__" : PySem.Str)) = false := by decide) : AW C A fx (loadName fx.env x) m H Q X := by
  intro s S
  rcases S.vars x v (lookup_mem hv) with ⟨k, mr, r, n, e1, e2⟩ | ⟨k, c, r, e1, e2, e3⟩
  · exact wpAny_loadName_local S.kind k n e1 ⟨m, H, S, Ext.refl' S, h r e2⟩
  · rcases k with k | k
    · exact wpAny_loadName_cell S.kind k e1 e2 ⟨m, H, S, Ext.refl' S, h r e3⟩
    · exact wpAny_loadName_free S.kind k e1 e2 ⟨m, H, S, Ext.refl' S, h r e3⟩ hn
theorem ev_var {x : PySem.Str} {pos : Pos} {v : Value} {Q : Value → Lo → AH → Prop} (hv : m.lookup x = some v) (h : Q v m H) (hn : (x == ("__classdict__" : PySem.Str)) = false := by decide) (hd : (x == ("__debug__" : PySem.Str)) = false := by decide) :
    EV C A fx (.Name x pos) m H Q X := by
  show AW C A fx (eval _ fx.env) m H _ X
  rw [eval_Name _ _ _ hd]
  exact aw_bind (aw_standAt (aw_load hv (fun r e => by rw [e]; exact h) hn))

structure Top (C : Cfg) (K : Frag) : Prop where
  X : K.In C.h₀
  g : ∃ mg, C.h₀.Ns mainGlobals mg
  b : ∃ mb, C.h₀.Ns builtinsNs mb ∧ ∀ x : PySem.Str, x ≠ "__name__" → mb x = bootBuiltins x
  nolimit : C.h₀.NoLimit
  read : ∃ p loose mg mb, TopRead p loose mg mb C.h₀

theorem ev_glob {K : Frag} {x : PySem.Str} {pos : Pos} {v : Value} {Q : Value → Lo → AH → Prop} (T : Top C K) (e : nsIn K mainGlobals x = some (some v)) (hk : fx.env.kindOf x = some .globalImplicit) (h : Q (er v) m H)
    (hd : (x == ("__debug__" : PySem.Str)) = false := by decide) : EV C A fx (.Name x pos) m H Q X := by
  intro s S
  obtain ⟨mg, hg⟩ := T.g
  rw [eval_Name _ _ _ hd]
  refine wpAny_bind (wpAny_standAt ?_)
  have hg' := hg.keeps S.base
  have hx : mg x = some v := mg_of (T.X.keeps S.base) hg' e
  unfold loadName
  simp only [Env.blockKind, S.kind, hk, ScopeKind.isAnnotationScope, Bool.false_and, Bool.false_eq_true, if_false]
  exact PySem.Calls.loadGlobal_global (S.glob.1 ▸ hg') hx ⟨m, H, S, Ext.refl' S, h⟩
theorem ev_builtin {K : Frag} {x : PySem.Str} {pos : Pos} {v : Value} {Q : Value → Lo → AH → Prop} (T : Top C K) (e : nsIn K mainGlobals x = some none) (hk : fx.env.kindOf x = some .globalImplicit) (hv : bootBuiltins x = some v) (hn : x ≠ "__name__") (h : Q (er v) m H)
    (hd : (x == ("__debug__" : PySem.Str)) = false := by decide) : EV C A fx (.Name x pos) m H Q X := by
  intro s S
  obtain ⟨mg, hg⟩ := T.g
  obtain ⟨mb, hb, hb'⟩ := T.b
  rw [eval_Name _ _ _ hd]
  refine wpAny_bind (wpAny_standAt ?_)
  have hg' := hg.keeps S.base
  have hx : mg x = none := mg_none_of (T.X.keeps S.base) hg' e
  unfold loadName
  simp only [Env.blockKind, S.kind, hk, ScopeKind.isAnnotationScope, Bool.false_and, Bool.false_eq_true, if_false]
  exact PySem.Calls.loadGlobal_builtin (S.glob.1 ▸ hg') hx (S.glob.2 ▸ hb.keeps S.base) ((hb' x hn).trans hv) ⟨m, H, S, Ext.refl' S, h⟩

/-! ### a name is stored -/
theorem put_cases {m : Lo} {x y : PySem.Str} {v w : Value} (h : (y, w) ∈ m.put x v) : (y = x ∧ w = v) ∨ (y ≠ x ∧ (y, w) ∈ m) := by
  rcases List.mem_cons.mp h with e | h
  · cases e; exact .inl ⟨rfl, rfl⟩
  · obtain ⟨h1, h2⟩ := List.mem_filter.mp h
    refine .inr ⟨fun e => ?_, h1⟩
    subst e
    simp at h2

theorem St.putW {s s' : Shared} {c : Addr} {m' : Lo} (S : St C A fx m H s) (hc : c ∈ fx.W) (hs : Heap.SameBut c s.heap s'.heap) (hthere : ∃ o, s'.heap.get? c = some o) (hex : ∀ o, s.heap.get? c = some o → (∀ vs, o.data ≠ .fields vs) → ∃ o', s'.heap.get? c = some o' ∧ (∀ vs, o'.data ≠ .fields vs))
    (hloc : ∃ mr, s'.heap.Ns fx.env.locals mr) (hcell : ∀ x c', fx.env.cells.lookup x = some c' → ∃ r, s'.heap.IsCell c' r) (hv : ∀ x v, (x, v) ∈ m' → VarAt fx.env s'.heap x v)
    (hg : s'.gens = s.gens := by rfl) (hos : s'.os = s.os := by rfl) : St C A fx m' H s' ∧ Ext A fx H s H s' := by
  have hck : c ∉ H.keys := S.apart c hc
  have hcb := S.above' (.inr hc)
  refine ⟨⟨fun b o e => (hs.2 b (fun q => by rw [q, hcb] at e; cases e)).trans (S.base b o e), fun p hp => ?_, S.low, S.above, S.nodup, S.apart, S.kind, S.glob, S.locW, fun b hb => ?_, hloc, S.cellW, fun x c' e => ?_, S.cellI, hv, ?_, S.frA, hg ▸ S.gens, hos.trans S.os⟩,
    ⟨fun b hb => .inl hb, fun b o e h1 h2 => ⟨o.slots, (hs.2 b fun q => h2 (q ▸ hc)).trans e, fun _ => rfl⟩, S.apart⟩⟩
  · obtain ⟨o, h1, h2⟩ := S.cells p hp
    exact ⟨o, (hs.2 _ fun q => hck (q ▸ mem_keys hp)).trans h1, h2⟩
  · obtain ⟨o, e⟩ := S.wlt b hb
    by_cases q : b = c
    · subst q; exact hthere
    · exact ⟨o, (hs.2 b q).trans e⟩
  · obtain ⟨_, h1, h2, h3⟩ := S.cellA x c' e
    exact ⟨hcell x c' e, h1, h2, h3⟩
  · obtain ⟨l, hl, hF⟩ := S.frs
    refine ⟨l, hl, ?_⟩
    clear hl
    induction l with
    | nil => trivial
    | cons env rest ih =>
      obtain ⟨h1, ⟨L, o, hL, hb, ho, hd⟩, hr⟩ := hF
      by_cases q : L = c
      · subst q
        obtain ⟨o', e1, e2⟩ := hex o ho hd
        exact ⟨h1, ⟨L, o', hL, hb, e1, e2⟩, ih hr⟩
      · exact ⟨h1, ⟨L, o, hL, hb, (hs.2 L q).trans ho, hd⟩, ih hr⟩

theorem aw_store {x : PySem.Str} {v : Value} {Q : Unit → Lo → AH → Prop} (hk : Own fx x) (h : Q () (m.put x (er v)) H) : AW C A fx (storeName fx.env x v) m H Q X := by
  intro s S
  rcases hk with hk | ⟨hk, hkW⟩
  · obtain ⟨mr, hm⟩ := S.loc
    refine wpAny_storeName_local hk hm (fun h' hn hs => ?_) (by rw [S.kind]; rfl)
    have hcell : ∀ y c, fx.env.cells.lookup y = some c → ∀ r, s.heap.IsCell c r → h'.IsCell c r := fun y c e r hr => hr.sameBut hs (S.cellA y c e).2.2.2
    have hv' : ∀ y w, (y, w) ∈ m.put x (er v) → VarAt fx.env h' y w := by
      intro y w hw
      rcases put_cases hw with ⟨rfl, rfl⟩ | ⟨hne, hw⟩
      · exact .inl ⟨hk, _, v, hn, by rw [if_pos rfl], rfl⟩
      · rcases S.vars y w hw with ⟨k, mr', r, n, e1, e2⟩ | ⟨k, c, r, e1, e2, e3⟩
        · refine .inl ⟨k, _, r, hn, ?_, e2⟩
          rw [if_neg hne]
          obtain ⟨o, es, ep, a1, a2, a3, a4⟩ := n
          obtain ⟨o', es', ep', b1, b2, b3, b4⟩ := hm
          rw [a1] at b1; cases b1
          rw [a2] at b2; cases b2
          rw [← b4, a4]; exact e1
        · exact .inr ⟨k, c, r, e1, hcell y c e1 _ e2, e3⟩
    obtain ⟨S', E⟩ := S.putW (s' := { s with heap := h', toks := s.toks + 1 }) (m' := m.put x (er v)) S.locW hs (let ⟨o, _, _, e, _⟩ := hn; ⟨o, e⟩) (fun o ho hd => by
        obtain ⟨o', es, ep, e1, e2, _⟩ := hn; exact ⟨o', e1, fun vs q => by rw [e2] at q; cases q⟩) ⟨_, hn⟩ (fun y c e => let ⟨⟨r, hr⟩, _⟩ := S.cellA y c e; ⟨r, hcell y c e r hr⟩) hv'
    exact ⟨_, H, S', E, h⟩
  · obtain ⟨c, hc⟩ := S.cellW x hk
    have hcW := hkW c hc
    obtain ⟨⟨r₀, hr₀⟩, c1, c2, c3⟩ := S.cellA x c hc
    refine wpAny_storeName_cell S.kind hk hc hr₀ fun h' hv hs => ?_
    have hloc : ∀ mr, s.heap.Ns fx.env.locals mr → h'.Ns fx.env.locals mr := fun mr hm => hm.sameBut hs (Ne.symm c3)
    have other : ∀ y c', fx.env.cells.lookup y = some c' → y ≠ x → c' ≠ c := fun y c' e hne q => hne (S.cellI y x c' e (q ▸ hc))
    have hcell : ∀ y c', fx.env.cells.lookup y = some c' → ∃ r, h'.IsCell c' r := by
      intro y c' e
      by_cases q : y = x
      · subst q; rw [hc] at e; cases e; exact ⟨_, hv⟩
      · obtain ⟨⟨r, hr⟩, _⟩ := S.cellA y c' e
        exact ⟨r, hr.sameBut hs (other y c' e q)⟩
    have hv' : ∀ y w, (y, w) ∈ m.put x (er v) → VarAt fx.env h' y w := by
      intro y w hw
      rcases put_cases hw with ⟨rfl, rfl⟩ | ⟨hne, hw⟩
      · exact .inr ⟨.inl hk, c, v, hc, hv, rfl⟩
      · rcases S.vars y w hw with ⟨k, mr', r, n, e1, e2⟩ | ⟨k, c', r, e1, e2, e3⟩
        · exact .inl ⟨k, mr', r, hloc _ n, e1, e2⟩
        · exact .inr ⟨k, c', r, e1, e2.sameBut hs (other y c' e1 hne), e3⟩
    obtain ⟨S', E⟩ := S.putW (s' := { s with heap := h' }) (m' := m.put x (er v)) hcW hs (let ⟨o, e, _⟩ := hv; ⟨o, e⟩) (fun o ho hd => by
        obtain ⟨o', e1, e2⟩ := hv; exact ⟨o', e1, fun vs q => by rw [e2] at q; cases q⟩) (let ⟨mr, hm⟩ := S.loc; ⟨mr, hloc mr hm⟩) hcell hv'
    exact ⟨_, H, S', E, h⟩
end
end Mine

namespace Mine
open PySem PySem.W PyProof.Rows
open Sem (wp)

section
variable {α : Type} {C : Cfg} {A : Around} {fx : Fx} {m m' : Lo} {H H' : AH} {X : Value → Lo → AH → Prop}

theorem aw_tk {t : Sem α} {Q : α → Lo → AH → Prop} (a : Tok → α)
    (ht : ∀ s, St C A fx m H s → ∀ Q' E', (∀ k k', Q' (a k) { s with toks := k' }) → wpAny (model C.prog C.w) A t Q' E' s) (h : ∀ k, Q (a k) m H) : AW C A fx t m H Q X :=
  fun s S => ht s S _ _ fun k k' => ⟨m, H, (S.toks k').1, (S.toks k').2, h k⟩

/-! ### constants -/
theorem ev_int {i : Int} {k : Nat} {pos : Pos} {Q : Value → Lo → AH → Prop} (h : Q (vI i) m H) : EV C A fx (.Constant (.int i) k pos) m H Q X := aw_mkInt fun _ => h
theorem ev_str {x : PySem.Str} {k : Nat} {pos : Pos} {Q : Value → Lo → AH → Prop} (h : Q (.str x 0) m H) : EV C A fx (.Constant (.str x) k pos) m H Q X := aw_mkText fun _ => h
theorem ev_none {k : Nat} {pos : Pos} {Q : Value → Lo → AH → Prop} (h : Q .none m H) : EV C A fx (.Constant .none k pos) m H Q X := aw_pure h
theorem ev_bool {b : Bool} {k : Nat} {pos : Pos} {Q : Value → Lo → AH → Prop} (h : Q (.bool b) m H) : EV C A fx (.Constant (.bool b) k pos) m H Q X := aw_pure h

/-! ### operators -/
theorem ev_bin {l r : PySem.Expr} {op : Operator} {pos : Pos} {Q : Value → Lo → AH → Prop} (h : EV C A fx l m H (fun x m₁ H₁ => EV C A fx r m₁ H₁ (fun y m₂ H₂ => BO C A fx op x y m₂ H₂ Q X) X) X) : EV C A fx (.BinOp l op r pos) m H Q X := by
  show AW C A fx (eval _ _) m H _ X
  rw [eval_BinOp]
  exact aw_bind (aw_mono h (fun a _ _ h₁ => aw_bind (aw_holding (aw_mono h₁ (fun b _ _ h₂ => aw_bind (aw_standAt (aw_operate (h₂ a b rfl rfl)))) fun _ _ _ x => x))) fun _ _ _ x => x)
theorem ev_cmp {l r : PySem.Expr} {op : CmpOp} {pos : Pos} {Q : Value → Lo → AH → Prop} (h : EV C A fx l m H (fun x m₁ H₁ => EV C A fx r m₁ H₁ (fun y m₂ H₂ => CO C A fx op x y m₂ H₂ Q X) X) X)
    (hm : behindInMarks op r = false := by with_unfolding_all rfl) : EV C A fx (.Compare l [op] [r] pos) m H Q X := by
  show AW C A fx (eval _ _) m H _ X
  rw [eval_Compare1, markedBehindIn_of_false hm]
  exact aw_bind (aw_mono h (fun a _ _ h₁ => aw_bind (aw_holding (aw_mono h₁ (fun b _ _ h₂ => aw_bind (aw_standAt (aw_operate (h₂ a b rfl rfl)))) fun _ _ _ x => x))) fun _ _ _ x => x)
theorem it_cmp {l r : PySem.Expr} {op : CmpOp} {pos : Pos} {Q : Bool → Lo → AH → Prop} (h : EV C A fx l m H (fun x m₁ H₁ => EV C A fx r m₁ H₁ (fun y m₂ H₂ => CO C A fx op x y m₂ H₂ (fun z m₃ H₃ => TR C A fx z m₃ H₃ Q X) X) X) X)
    (hm : behindInMarks op r = false := by with_unfolding_all rfl) : IT C A fx (.Compare l [op] [r] pos) m H Q X := by
  show AW C A fx (isTrue _ _ _) m H _ X
  rw [isTrue_Compare1, markedBehindIn_of_false hm]
  exact aw_bind (aw_mono h (fun a _ _ h₁ => aw_bind (aw_holding (aw_mono h₁ (fun b _ _ h₂ => aw_bind (aw_standAt (aw_bind (aw_operate (aw_mono (h₂ a b rfl rfl) (fun c _ _ h₃ => aw_holding (h₃ c rfl)) fun _ _ _ x => x))))) fun _ _ _ x => x))) fun _ _ _ x => x)
theorem it_not {e : PySem.Expr} {pos : Pos} {Q : Bool → Lo → AH → Prop} (h : IT C A fx e m H (fun b => Q (!b)) X) : IT C A fx (.UnaryOp .Not e pos) m H Q X := by
  show AW C A fx (isTrue _ _ _) m H _ X
  rw [arm_isTrue_UnaryOp]
  exact aw_bind (aw_mono h (fun _ _ _ q => aw_pure q) fun _ _ _ x => x)
noncomputable def plainTest : PySem.Expr → Bool
  | .UnaryOp .Not .. | .BoolOp .. | .IfExp .. | .Compare .. => false
  | _ => true
theorem isTrue_plain {e : PySem.Expr} {env : Env} {t : Sem Value} (hp : plainTest e = true) : isTrue e env t = (do let v ← t; standAt e.pos; holding [v] (truthy v)) := by
  cases e <;> first | rfl | (rename_i op _ _; cases op <;> first | rfl | cases hp) | cases hp
theorem it_val {e : PySem.Expr} {Q : Bool → Lo → AH → Prop} (h : EV C A fx e m H (fun x m₁ H₁ => TR C A fx x m₁ H₁ Q X) X) (hp : plainTest e = true := by rfl) : IT C A fx e m H Q X := by
  show AW C A fx (isTrue _ _ _) m H _ X
  rw [isTrue_plain hp]
  exact aw_bind (aw_mono h (fun a _ _ h₁ => aw_bind (aw_standAt (aw_holding (h₁ a rfl)))) fun _ _ _ x => x)
theorem it_and_nil {pos : Pos} {Q : Bool → Lo → AH → Prop} (h : Q true m H) : IT C A fx (.BoolOp .And [] pos) m H Q X := aw_pure (a := true) h
theorem it_or_nil {pos : Pos} {Q : Bool → Lo → AH → Prop} (h : Q false m H) : IT C A fx (.BoolOp .Or [] pos) m H Q X := aw_pure (a := false) h
theorem it_and {e : PySem.Expr} {r : List PySem.Expr} {pos : Pos} {Q : Bool → Lo → AH → Prop} (h : IT C A fx e m H (fun b m₁ H₁ => if b = true then IT C A fx (.BoolOp .And r pos) m₁ H₁ Q X else Q false m₁ H₁) X) : IT C A fx (.BoolOp .And (e :: r) pos) m H Q X := by
  show AW C A fx (allTrue .And (e :: r) fx.env) m H _ X
  rw [arm_allTrue_cons]
  refine aw_bind (aw_mono h (fun b m₁ H₁ hb => ?_) fun _ _ _ x => x)
  cases b with
  | true => exact hb
  | false => exact aw_pure (by simpa using hb)
theorem it_or {e : PySem.Expr} {r : List PySem.Expr} {pos : Pos} {Q : Bool → Lo → AH → Prop} (h : IT C A fx e m H (fun b m₁ H₁ => if b = true then Q true m₁ H₁ else IT C A fx (.BoolOp .Or r pos) m₁ H₁ Q X) X) : IT C A fx (.BoolOp .Or (e :: r) pos) m H Q X := by
  show AW C A fx (allTrue .Or (e :: r) fx.env) m H _ X
  rw [arm_allTrue_cons]
  refine aw_bind (aw_mono h (fun b m₁ H₁ hb => ?_) fun _ _ _ x => x)
  cases b with
  | true => exact aw_pure (by simpa using hb)
  | false => exact (by simpa using hb : IT C A fx (.BoolOp .Or r pos) m₁ H₁ Q X)
theorem ev_bool1 {op : BoolOp} {e : PySem.Expr} {pos : Pos} {Q : Value → Lo → AH → Prop} (h : EV C A fx e m H Q X) : EV C A fx (.BoolOp op [e] pos) m H Q X := h
theorem ev_and {e e' : PySem.Expr} {r : List PySem.Expr} {pos : Pos} {Q : Value → Lo → AH → Prop}
    (h : EV C A fx e m H (fun x m₁ H₁ => TR C A fx x m₁ H₁ (fun b m₂ H₂ => if b = true then EV C A fx (.BoolOp .And (e' :: r) pos) m₂ H₂ Q X else Q x m₂ H₂) X) X) : EV C A fx (.BoolOp .And (e :: e' :: r) pos) m H Q X := by
  show AW C A fx (eval e fx.env >>= _) m H _ X
  refine aw_bind (aw_mono h (fun a m₁ H₁ h₁ => aw_bind (aw_standAt (aw_bind (aw_holding (aw_mono (h₁ a rfl) (fun b m₂ H₂ h₂ => ?_) fun _ _ _ x => x))))) fun _ _ _ x => x)
  cases b with
  | true => exact (by simpa using h₂ : EV C A fx (.BoolOp .And (e' :: r) pos) m₂ H₂ Q X)
  | false => exact aw_pure (by simpa using h₂)
theorem ev_named {x : PySem.Str} {px pos : Pos} {e : PySem.Expr} {Q : Value → Lo → AH → Prop} (hk : Own fx x) (h : EV C A fx e m H (fun v m₁ H₁ => Q v (m₁.put x v) H₁) X) : EV C A fx (.NamedExpr (.Name x px) e pos) m H Q X := by
  show AW C A fx (eval _ _) m H _ X
  rw [arm_eval_NamedExpr]
  refine aw_bind (aw_mono h (fun a m₁ H₁ h₁ => aw_bind (aw_holding ?_)) fun _ _ _ x => x)
  rw [arm_assign_Name]
  exact aw_bind (aw_standAt (aw_bindName (aw_store hk (aw_pure h₁))))

/-! ### ints -/
section
variable {i j : Int} {Q : Value → Lo → AH → Prop}
theorem bo_add (h : Q (vI (i + j)) m H) : BO C A fx .Add (vI i) (vI j) m H Q X := fun a b ha hb => by
  obtain ⟨t, rfl⟩ := er_eq_int ha; obtain ⟨u, rfl⟩ := er_eq_int hb
  exact aw_tk (fun k => .int (i + j) k) (fun s S Q' E' q => add_int (q _ _)) fun _ => h
theorem bo_mul (hm : IntMulOk i j) (h : Q (vI (i * j)) m H) : BO C A fx .Mult (vI i) (vI j) m H Q X := fun a b ha hb => by
  obtain ⟨t, rfl⟩ := er_eq_int ha; obtain ⟨u, rfl⟩ := er_eq_int hb
  exact aw_tk (fun k => .int (i * j) k) (fun s S Q' E' q => mul_int (hm := hm) (q _ _)) fun _ => h
theorem bo_fdiv (hj : j ≠ 0) (hp : Builtin.divisionGoesByPylong i j = false) (h : Q (vI (i.fdiv j)) m H) : BO C A fx .FloorDiv (vI i) (vI j) m H Q X := fun a b ha hb => by
  obtain ⟨t, rfl⟩ := er_eq_int ha; obtain ⟨u, rfl⟩ := er_eq_int hb
  exact aw_tk (fun k => .int (i.fdiv j) k) (fun s S Q' E' q => floordiv_int hj (q _ _) (.inl hp)) fun _ => h
theorem bo_mod (hj : j ≠ 0) (h : Q (vI (i.fmod j)) m H) : BO C A fx .Mod (vI i) (vI j) m H Q X := fun a b ha hb => by
  obtain ⟨t, rfl⟩ := er_eq_int ha; obtain ⟨u, rfl⟩ := er_eq_int hb
  exact aw_tk (fun k => .int (i.fmod j) k) (fun s S Q' E' q => mod_int' hj (q _ _)) fun _ => h
theorem bo_pow (hj : 0 ≤ j) (hsz : (Builtin.Int.intBits i : Int) * j ≤ 2 ^ 27) (h : Q (vI (i ^ j.toNat)) m H) : BO C A fx .Pow (vI i) (vI j) m H Q X := fun a b ha hb => by
  obtain ⟨t, rfl⟩ := er_eq_int ha; obtain ⟨u, rfl⟩ := er_eq_int hb
  exact aw_tk (fun k => .int (i ^ j.toNat) k) (fun s S Q' E' q => pow_int hj hsz (q _ _)) fun _ => h
theorem io_add (h : Q (vI (i + j)) m H) : IO C A fx .Add (vI i) (vI j) m H Q X := fun a b ha hb => by
  obtain ⟨t, rfl⟩ := er_eq_int ha; obtain ⟨u, rfl⟩ := er_eq_int hb
  exact aw_tk (fun k => .int (i + j) k) (fun s S Q' E' q => iadd_int (q _ _)) fun _ => h
theorem io_sub (h : Q (vI (i - j)) m H) : IO C A fx .Sub (vI i) (vI j) m H Q X := fun a b ha hb => by
  obtain ⟨t, rfl⟩ := er_eq_int ha; obtain ⟨u, rfl⟩ := er_eq_int hb
  exact aw_tk (fun k => .int (i - j) k) (fun s S Q' E' q => isub_int (q _ _)) fun _ => h
theorem co_eq (h : Q (.bool (i == j)) m H) : CO C A fx .Eq (vI i) (vI j) m H Q X := fun a b ha hb => by
  obtain ⟨t, rfl⟩ := er_eq_int ha; obtain ⟨u, rfl⟩ := er_eq_int hb
  exact aw_tk (fun _ => .bool (i == j)) (fun s S Q' E' q => eq_int (q 0 s.toks)) fun _ => h
theorem co_ne (h : Q (.bool (i != j)) m H) : CO C A fx .NotEq (vI i) (vI j) m H Q X := fun a b ha hb => by
  obtain ⟨t, rfl⟩ := er_eq_int ha; obtain ⟨u, rfl⟩ := er_eq_int hb
  exact aw_tk (fun _ => .bool (i != j)) (fun s S Q' E' q => ne_int (q 0 s.toks)) fun _ => h
theorem co_gt (h : Q (.bool (decide (j < i))) m H) : CO C A fx .Gt (vI i) (vI j) m H Q X := fun a b ha hb => by
  obtain ⟨t, rfl⟩ := er_eq_int ha; obtain ⟨u, rfl⟩ := er_eq_int hb
  exact aw_tk (fun _ => .bool (decide (j < i))) (fun s S Q' E' q => gt_int (q 0 s.toks)) fun _ => h
theorem co_is_none {x : Value} (hx : ∀ id, x ≠ .builtin id) (h : Q (.bool (decide (x = .none))) m H) : CO C A fx .Is x .none m H Q X := fun a b ha hb => by
  obtain rfl := er_eq_none hb
  have e : isSame a .none = pure (decide (x = .none)) := by
    subst ha
    cases a <;> first | rfl | exact absurd rfl (hx _)
  show AW C A fx (isSame a .none >>= _) m H _ X
  rw [e]
  exact aw_bind (aw_pure (aw_pure h))
theorem co_isnot_none {x : Value} (hx : ∀ id, x ≠ .builtin id) (h : Q (.bool (!decide (x = .none))) m H) : CO C A fx .IsNot x .none m H Q X := fun a b ha hb => by
  obtain rfl := er_eq_none hb
  have e : isSame a .none = pure (decide (x = .none)) := by
    subst ha
    cases a <;> first | rfl | exact absurd rfl (hx _)
  show AW C A fx (isSame a .none >>= _) m H _ X
  rw [e]
  exact aw_bind (aw_pure (aw_pure h))
theorem co_is_reftype {r : Addr} {n : String} (h : Q (.bool false) m H) : CO C A fx .Is (.ref r) (.type n) m H Q X := fun a a' ha hb => by
  obtain rfl := er_eq_ref ha; obtain rfl := er_eq_type hb
  have e : isSame (.ref r) (.type n) = pure false := rfl
  show AW C A fx (isSame _ _ >>= _) m H _ X
  rw [e]
  exact aw_bind (aw_pure (aw_pure h))
end

/-! ### truth -/
theorem tr_none {Q : Bool → Lo → AH → Prop} (h : Q false m H) : TR C A fx .none m H Q X := fun a ha => by obtain rfl := er_eq_none ha; exact aw_look false (fun s S Q' E' q => truthy_none q) h
theorem tr_bool {b : Bool} {Q : Bool → Lo → AH → Prop} (h : Q b m H) : TR C A fx (.bool b) m H Q X := fun a ha => by obtain rfl := er_eq_bool ha; exact aw_look b (fun s S Q' E' q => wpAny_truthy_bool q) h
theorem St.isList {s : Shared} {l : Addr} {xs : List Value} (S : St C A fx m H s) (h : (l, AO.list xs) ∈ H) : ∃ vs : Array Value, s.heap.IsList l vs ∧ vs.toList.map er = xs := by
  obtain ⟨o, ho, h1, h2, vs, n, h3, h4⟩ := S.get h
  exact ⟨vs, ⟨o, ho, h1, n, h3⟩, h4⟩
theorem or_list {o : Obj} {xs : List Value} (h : OR C o (.list xs)) : ∃ vs n, o = { cls := .type "list", dict := none, data := .seq vs n, slots := #[] } ∧ vs.toList.map er = xs := by
  obtain ⟨h1, ⟨h2, h2'⟩, vs, n, h3, h4⟩ := h
  obtain ⟨oc, od, odd, osl⟩ := o
  dsimp only at h1 h2 h2' h3
  subst h1 h2 h2' h3
  exact ⟨vs, n, rfl, h4⟩
theorem or_tup {o : Obj} {xs : List Value} (h : OR C o (.tup xs)) : ∃ vs n, o = { cls := .type "tuple", dict := none, data := .seq vs n, slots := #[] } ∧ vs.toList.map er = xs := by
  obtain ⟨h1, ⟨h2, h2'⟩, vs, n, h3, h4⟩ := h
  obtain ⟨oc, od, odd, osl⟩ := o
  dsimp only at h1 h2 h2' h3
  subst h1 h2 h2' h3
  exact ⟨vs, n, rfl, h4⟩
theorem St.isL {s : Shared} {l : Addr} {xs : List Value} (S : St C A fx m H s) (h : (l, AO.list xs) ∈ H) : ∃ vs n, IsL s.heap l vs n ∧ vs.toList.map er = xs := by
  obtain ⟨o, ho, hr⟩ := S.get h
  obtain ⟨vs, n, rfl, h4⟩ := or_list hr
  exact ⟨vs, n, ho, h4⟩
theorem St.isT {s : Shared} {l : Addr} {xs : List Value} (S : St C A fx m H s) (h : (l, AO.tup xs) ∈ H) : ∃ vs n, s.heap.get? l = some { cls := .type "tuple", dict := none, data := .seq vs n, slots := #[] } ∧ vs.toList.map er = xs := by
  obtain ⟨o, ho, hr⟩ := S.get h
  obtain ⟨vs, n, rfl, h4⟩ := or_tup hr
  exact ⟨vs, n, ho, h4⟩
theorem St.isTup {s : Shared} {l : Addr} {xs : List Value} (S : St C A fx m H s) (h : (l, AO.tup xs) ∈ H) : ∃ vs : Array Value, IsTup s.heap l vs ∧ vs.toList.map er = xs := by
  obtain ⟨o, ho, h1, h2, vs, n, h3, h4⟩ := S.get h
  exact ⟨vs, ⟨o, ho, h1, n, h3⟩, h4⟩
theorem St.dictAt {s : Shared} {d : Addr} {kvs : List (Int × Value)} {ep : Nat} (S : St C A fx m H s) (h : (d, AO.dict kvs ep) ∈ H) :
    ∃ raw, s.heap.DictAt (intKind C.prog C.w) d raw ep ∧ raw.map (fun kv => (kv.1, er kv.2)) = kvs := by
  obtain ⟨o, ho, h1, es, h2, h3, h4, raw, h5, h6⟩ := S.get h
  refine ⟨raw, ⟨o, es, ho, h1, h2, h3, h5, ?_⟩, h6⟩
  rw [← h6, List.map_map] at h4
  exact h4
theorem St.notMods {s : Shared} {d : Addr} (S : St C A fx m H s) (h : d ∈ H.keys) : (d == sysModules) = false := by
  exact beq_eq_false_iff_ne.mpr (fun q => by obtain ⟨_, o, ho⟩ := S.low; rw [q] at h; rw [S.above _ (.inl h)] at ho; cases ho)
theorem size_of_er {vs : Array Value} {xs : List Value} (h : vs.toList.map er = xs) : vs.size = xs.length := by rw [← h]; simp
end
end Mine

namespace Mine
open PySem PySem.W PyProof.Rows
open Sem (wp)

section
variable {α : Type} {C : Cfg} {A : Around} {fx : Fx} {m m' : Lo} {H H' : AH} {X : Value → Lo → AH → Prop} {K : Frag}

/-! ### attributes -/
theorem aw_letTemp {e : PySem.Expr} {o r : Value} {Q : Unit → Lo → AH → Prop} (h : Q () m H) : AW C A fx (letTemporaryGo e o r) m H Q X := fun s S => wpAny_letTemporaryGo ⟨m, H, S, Ext.refl' S, h⟩
theorem ev_attr {e : PySem.Expr} {n : PySem.Str} {pos : Pos} {Q : Value → Lo → AH → Prop} (h : EV C A fx e m H (fun x m₁ H₁ => GA C A fx x n m₁ H₁ Q X) X) (hb : attributeBase e n fx.env (eval e fx.env) = eval e fx.env := by rfl) :
    EV C A fx (.Attribute e n pos) m H Q X := by
  show AW C A fx (eval _ _) m H _ X
  rw [arm_eval_Attribute, hb]
  exact aw_bind (aw_mono h (fun a _ _ h₁ => aw_bind (aw_standAt (aw_bind (aw_holding (aw_mono (h₁ a rfl) (fun r _ _ h₂ => aw_bind (aw_letTemp (aw_pure h₂))) fun _ _ _ x => x))))) fun _ _ _ x => x)

/-! ### items -/
noncomputable def SUB (C : Cfg) (A : Around) (fx : Fx) (value slice : PySem.Expr) (x i : Value) (m : Lo) (H : AH) (Q : Value → Lo → AH → Prop) (X : Value → Lo → AH → Prop) : Prop := ∀ a b, er a = x → er b = i → AW C A fx (subscriptTail value slice a b) m H (fun v => Q (er v)) X
theorem ev_sub {e i : PySem.Expr} {pos : Pos} {Q : Value → Lo → AH → Prop} (h : EV C A fx e m H (fun x m₁ H₁ => EV C A fx i m₁ H₁ (fun y m₂ H₂ => SUB C A fx e i x y m₂ H₂ Q X) X) X) : EV C A fx (.Subscript e i pos) m H Q X := by
  show AW C A fx (eval _ _) m H _ X
  rw [eval_Subscript]
  refine aw_bind (aw_mono h (fun o _ _ h₁ => aw_bind (aw_holding (aw_mono h₁ (fun i _ _ h₂ => aw_bind (aw_standAt (h₂ o i rfl rfl))) fun _ _ _ x => x))) fun _ _ _ x => x)
theorem er_get {vs : Array Value} {xs : List Value} {k : Nat} {v : Value} (h : vs.toList.map er = xs) (hx : xs[k]? = some v) : ∃ r, vs[k]? = some r ∧ er r = v := by
  subst h
  rw [List.getElem?_map] at hx
  obtain ⟨r, h1, h2⟩ := Option.map_eq_some_iff.mp hx
  exact ⟨r, by rw [← Array.getElem?_toList]; exact h1, h2⟩
theorem sub_list {e i : PySem.Expr} {l : Addr} {xs : List Value} {k : Int} {v : Value} {Q : Value → Lo → AH → Prop} (hl : (l, AO.list xs) ∈ H) (h0 : 0 ≤ k) (hf : k < 2 ^ 63) (hx : xs[k.toNat]? = some v) (h : Q v m H)
    (hs : ∀ t, subscripted i false (.ref l) (.int k t) = operate [.ref l, .int k t] (getItem (.ref l) (.int k t)) := by intro _; rfl) : SUB C A fx e i (.ref l) (vI k) m H Q X := fun a b ha hb => by
  obtain rfl := er_eq_ref ha; obtain ⟨t, rfl⟩ := er_eq_int hb
  intro s S
  obtain ⟨vs, h1, h2⟩ := S.isList hl
  obtain ⟨r, e1, e2⟩ := er_get h2 hx
  exact tail_any h1.typeIs slot_list_getitem.lookup (wpAny_getItem_list h1 h0 hf e1 ⟨m, H, S, Ext.refl' S, by show Q (er _) m H; rw [e2]; exact h⟩) (hs t)
theorem sub_list_last {e i : PySem.Expr} {l : Addr} {xs : List Value} {v : Value} {Q : Value → Lo → AH → Prop} (hl : (l, AO.list (xs ++ [v])) ∈ H) (h : Q v m H)
    (hs : ∀ t, subscripted i false (.ref l) (.int (-1) t) = operate [.ref l, .int (-1) t] (getItem (.ref l) (.int (-1) t)) := by intro _; rfl) : SUB C A fx e i (.ref l) (vI (-1)) m H Q X := fun a b ha hb => by
  obtain rfl := er_eq_ref ha; obtain ⟨t, rfl⟩ := er_eq_int hb
  intro s S
  obtain ⟨vs, h1, h2⟩ := S.isList hl
  have hsz := size_of_er h2
  rw [List.length_append, List.length_singleton] at hsz
  obtain ⟨r, e1, e2⟩ := er_get (k := xs.length) (v := v) h2 (by simp)
  refine tail_any h1.typeIs slot_list_getitem.lookup (wpAny_getItem_list_neg h1 (by decide) (by omega) (by decide) ?_ ⟨m, H, S, Ext.refl' S, by show Q (er _) m H; rw [e2]; exact h⟩) (hs t)
  have : ((-1 : Int) + vs.size).toNat = xs.length := by omega
  rw [this]; exact e1
noncomputable def dval (kvs : List (Int × Value)) (k : Int) : Option Value := (kvs.find? fun kv => kv.1 = k).map (·.2)
theorem valueAt_er {raw : List (Int × Value)} {kvs : List (Int × Value)} (h : raw.map (fun kv => (kv.1, er kv.2)) = kvs) (k : Int) : (valueAt raw k).map er = dval kvs k := by
  subst h
  unfold valueAt dval
  induction raw with
  | nil => rfl
  | cons kv r ih =>
    simp only [List.map_cons, List.find?_cons]
    by_cases hk : kv.1 = k
    · simp [hk]
    · simpa [hk] using ih
theorem intMap_of {h : Heap} {d : Addr} {raw : List (Int × Value)} {ep : Nat} (x : h.DictAt (intKind C.prog C.w) d raw ep) : h.IntMap d (fun k => valueAt raw k) := by
  obtain ⟨o, es, ho, hc, hd, hk, hp, hn⟩ := x
  refine ⟨o, es, ep, ho, hc.1, hd, fun e he => ?_, fun k => ?_⟩
  · obtain ⟨k, h1, h2⟩ := hk e he
    obtain ⟨t, h3⟩ := Value.isInt_shape h1
    exact ⟨k, t, h3, h2⟩
  · have := hp.find k
    unfold findBy
    rw [← Array.find?_toList]
    exact this
theorem sub_dict {e i : PySem.Expr} {d : Addr} {kvs : List (Int × Value)} {ep : Nat} {k : Int} {v : Value} {Q : Value → Lo → AH → Prop} (hd : (d, AO.dict kvs ep) ∈ H) (hv : dval kvs k = some v) (h : Q v m H)
    (hs : ∀ t, subscripted i false (.ref d) (.int k t) = operate [.ref d, .int k t] (getItem (.ref d) (.int k t)) := by intro _; rfl) : SUB C A fx e i (.ref d) (vI k) m H Q X := fun a b ha hb => by
  obtain rfl := er_eq_ref ha; obtain ⟨t, rfl⟩ := er_eq_int hb
  intro s S
  obtain ⟨raw, h1, h2⟩ := S.dictAt hd
  have e1 := valueAt_er h2 k
  rw [hv] at e1
  obtain ⟨r, e2, e3⟩ := Option.map_eq_some_iff.mp e1
  refine tail_any h1.dictOf.typeIs slot_dict_getitem.lookup (wpAny_getItem_intMap (intMap_of h1) e2 ⟨m, H, (S.toks _).1, (S.toks _).2, by show Q (er _) m H; rw [e3]; exact h⟩) (hs t)

/-! slices of lists -/
theorem slicePick_map (vs : Array Value) (f : Value → Value) (lo hi st : Option Int) : (slicePick vs lo hi st).toList.map f = (slicePick (vs.map f) lo hi st).toList := by
  unfold slicePick
  simp only [Array.size_map]
  have key : ∀ (l : List Nat), (l.filterMap (vs[·]?)).map f = l.filterMap ((vs.map f)[·]?) := by
    intro l
    induction l with
    | nil => rfl
    | cons x r ih =>
      simp only [List.filterMap_cons, Array.getElem?_map]
      cases vs[x]? with
      | none => simpa using ih
      | some y => simp [ih]
  simp [key]
noncomputable def pickL (xs : List Value) (lo hi st : Option Int) : List Value := (slicePick xs.toArray lo hi st).toList
noncomputable def EP (C : Cfg) (A : Around) (fx : Fx) (e : Option PySem.Expr) (m : Lo) (H : AH) (Q : Value → Lo → AH → Prop) (X : Value → Lo → AH → Prop) : Prop := AW C A fx (valueOrNone (evalOpt e fx.env)) m H (fun v => Q (er v)) X
theorem ep_none {Q : Value → Lo → AH → Prop} (h : Q .none m H) : EP C A fx none m H Q X := aw_pure h
theorem ep_some {e : PySem.Expr} {Q : Value → Lo → AH → Prop} (h : EV C A fx e m H Q X) : EP C A fx (some e) m H Q X := h
noncomputable def partV : Option Int → Value
  | none => .none
  | some i => vI i
theorem isPart_of {v : Value} {k : Option Int} (h : er v = partV k) : IsPart v k := by
  cases k with
  | none => rw [er_eq_none h]; exact .none
  | some i => obtain ⟨t, rfl⟩ := er_eq_int h; exact .int i t
theorem aw_new {T : String} {d : Data} {ao : AO} {Q : Value → Lo → AH → Prop} (hr : OR C { cls := .type T, data := d } ao) (hf : ({ cls := .type T, data := d } : Obj).isFreed = false) (hz : sizeOk d) (h : ∀ a, a ∉ H.keys → Q (.ref a) m ((a, ao) :: H)) :
    AW C A fx (newObj (.type T) d) m H Q X := fun s S => by
  obtain ⟨S', E⟩ := S.push hr hf
  exact wpAny_newObj_type ⟨m, _, S', E, h _ fun hm => Nat.lt_irrefl _ (S.key_lt hm)⟩ hz
theorem aw_newList {vs : List Value} {Q : Value → Lo → AH → Prop} (hz : vs.length ≤ 1000000) (h : ∀ a, a ∉ H.keys → Q (.ref a) m ((a, AO.list (vs.map er)) :: H)) : AW C A fx (newList vs) m H Q X :=
  aw_new (ao := .list (vs.map er)) ⟨rfl, ⟨rfl, rfl⟩, _, _, rfl, by simp⟩ rfl (by show vs.toArray.size ≤ sizeLine; rw [sizeLine_eq, List.size_toArray]; omega) h
theorem aw_newTuple {vs : List Value} {Q : Value → Lo → AH → Prop} (hz : vs.length ≤ 1000000) (h : ∀ a, a ∉ H.keys → Q (.ref a) m ((a, AO.tup (vs.map er)) :: H)) : AW C A fx (newTuple vs) m H Q X :=
  aw_new (ao := .tup (vs.map er)) ⟨rfl, ⟨rfl, rfl⟩, _, _, rfl, by simp⟩ rfl (by show vs.toArray.size ≤ sizeLine; rw [sizeLine_eq, List.size_toArray]; omega) h
theorem aw_newFields {T : String} {vs : List Value} {Q : Value → Lo → AH → Prop} (hz : vs.length ≤ 1000000) (h : ∀ a, a ∉ H.keys → Q (.ref a) m ((a, AO.flds (.type T) (vs.map er)) :: H)) : AW C A fx (newFields T vs) m H Q X :=
  aw_new (ao := .flds (.type T) (vs.map er)) ⟨rfl, ⟨rfl, rfl⟩, _, rfl, by simp⟩ rfl (by show vs.toArray.size ≤ sizeLine + 2; rw [sizeLine_eq, List.size_toArray]; omega) h

theorem ev_subslice {e : PySem.Expr} {lo hi st : Option PySem.Expr} {p pos : Pos} {Q : Value → Lo → AH → Prop}
    (h : EV C A fx e m H (fun x m₁ H₁ => EP C A fx lo m₁ H₁ (fun l m₂ H₂ => EP C A fx hi m₂ H₂ (fun u m₃ H₃ => EP C A fx st m₃ H₃ (fun k m₄ H₄ =>
      ∃ r xs l' u' k', x = .ref r ∧ (r, AO.list xs) ∈ H₄ ∧ l = partV l' ∧ u = partV u' ∧ k = partV k' ∧ k' ≠ some 0 ∧ xs.length ≤ 1000000 ∧ ∀ a, a ∉ H₄.keys → Q (.ref a) m₄ ((a, AO.list (pickL xs l' u' k')) :: H₄)) X) X) X) X)
    (hs : ∀ x i, ∃ ops, subscripted (.Slice lo hi st p) false x i = operate ops (getItem x i) := by intro _ _; exact ⟨_, rfl⟩) :
    EV C A fx (.Subscript e (.Slice lo hi st p) pos) m H Q X := by
  show AW C A fx (eval _ _) m H _ X
  rw [eval_Subscript]
  refine aw_bind (aw_mono h (fun o m₁ H₁ h₁ => aw_bind (aw_holding ?_)) fun _ _ _ x => x)
  rw [arm_eval_Slice]
  refine aw_bind (aw_mono h₁ (fun l m₂ H₂ h₂ => aw_bind (aw_holding (aw_mono h₂ (fun u m₃ H₃ h₃ => aw_bind (aw_holding (aw_mono h₃ (fun k m₄ H₄ h₄ => ?_) fun _ _ _ x => x))) fun _ _ _ x => x))) fun _ _ _ x => x)
  obtain ⟨r, xs, l', u', k', e0, e1, e2, e3, e4, e5, e6, hq⟩ := h₄
  obtain rfl := er_eq_ref e0
  refine aw_newFields (by simp) fun a ha => aw_bind (aw_standAt ?_)
  obtain ⟨ops, hops⟩ := hs (.ref r) (.ref a)
  refine aw_forget ?_
  intro s S
  obtain ⟨vs, h1, h2⟩ := S.isList (List.mem_cons_of_mem _ e1)
  obtain ⟨o, ho, c1, c2, ws, c3, c4⟩ := S.get (List.mem_cons_self)
  obtain ⟨l₁, ws⟩ : ∃ l, ws = l.toArray := ⟨ws.toList, rfl⟩
  subst ws
  obtain ⟨a1, a2, a3, e1', f1, f2, f3⟩ : ∃ a1 a2 a3, l₁ = [a1, a2, a3] ∧ er a1 = er l ∧ er a2 = er u ∧ er a3 = er k := by
    rcases l₁ with _ | ⟨a1, _ | ⟨a2, _ | ⟨a3, _ | ⟨a4, l₁⟩⟩⟩⟩
    · simp at c4
    · simp at c4
    · simp at c4
    · simp at c4; exact ⟨a1, a2, a3, rfl, c4.1, c4.2.1, c4.2.2⟩
    · simp at c4
  subst e1'
  have hsl : s.heap.IsSliceOf a a1 a2 a3 := ⟨o, ho, c1, c3⟩
  refine tail_any h1.typeIs slot_list_getitem.lookup (wpAny_getItem_list_slice h1 hsl (isPart_of (f1.trans e2)) (isPart_of (f2.trans e3)) (isPart_of (f3.trans e4)) e5 ?_ (by rw [size_of_er h2, sizeLine_eq]; omega)) hops
  obtain ⟨S₂, E₂⟩ := S.push (o := { cls := .type "list", data := .seq (slicePick vs l' u' k') }) (ao := .list (pickL xs l' u' k')) ⟨rfl, ⟨rfl, rfl⟩, _, _, rfl, by
    rw [slicePick_map]; unfold pickL; rw [← h2]; exact congrArg (fun q => (slicePick q l' u' k').toList) (Array.toList_inj.mp (by simp))⟩
  refine ⟨m₄, _, S₂, E₂, _, List.Sublist.cons_cons _ (List.Sublist.cons _ (List.Sublist.refl _)), hq _ fun hm => ?_⟩
  exact Nat.lt_irrefl _ (S.key_lt (List.mem_cons_of_mem _ hm))
end
end Mine

namespace Mine
open PySem PySem.W PyProof.Rows
open Sem (wp)

section
variable {α : Type} {C : Cfg} {A : Around} {fx : Fx} {m m' : Lo} {H H' : AH} {X : Value → Lo → AH → Prop} {K : Frag}

/-! ### arguments -/
noncomputable abbrev EVS (C : Cfg) (A : Around) (fx : Fx) (es : List PySem.Expr) (pos : Pos) (m : Lo) (H : AH) (Q : List Value → Lo → AH → Prop) (X : Value → Lo → AH → Prop) : Prop :=
  AW C A fx (spliced (backTo pos (starEach es fx.env))) m H (fun vs => Q (vs.map er)) X
theorem evs_nil {pos : Pos} {Q : List Value → Lo → AH → Prop} (h : Q [] m H) : EVS C A fx [] pos m H Q X := aw_pure h
theorem evs_cons {e : PySem.Expr} {r : List PySem.Expr} {pos : Pos} {Q : List Value → Lo → AH → Prop} (h : EV C A fx e m H (fun v m₁ H₁ => EVS C A fx r pos m₁ H₁ (fun vs => Q (v :: vs)) X) X)
    (hs : starEach (e :: r) fx.env = (false, eval e fx.env) :: starEach r fx.env := by rfl) : EVS C A fx (e :: r) pos m H Q X := by
  show AW C A fx (spliced (backTo pos (starEach (e :: r) fx.env))) m H _ X
  rw [hs]
  show AW C A fx (spliced ((false, eval e fx.env) :: backTo pos (starEach r fx.env))) m H _ X
  rw [spliced]
  refine aw_bind (aw_mono h (fun v _ _ h₁ => ?_) fun _ _ _ x => x)
  simp only [Bool.false_eq_true, if_false]
  exact aw_bind (aw_pure (aw_bind (aw_holding (aw_mono h₁ (fun vs _ _ h₂ => aw_pure h₂) fun _ _ _ x => x))))

noncomputable def COLL (C : Cfg) (A : Around) (fx : Fx) (x : Value) (m : Lo) (H : AH) (Q : List Value → Lo → AH → Prop) (X : Value → Lo → AH → Prop) : Prop :=
  ∀ a, er a = x → AW C A fx (notIterableAtAll a) m H (fun b m₁ H₁ => b = false ∧ AW C A fx (collect a) m₁ H₁ (fun vs => Q (vs.map er)) X) X
theorem notIter_look {s : Shared} {a : Value} {T id : String} {M : Model} {Q' : Bool → Shared → Prop} {E' : Value → Shared → Prop} (hT : s.TypeIs a T) (hl : typeLookup (.type T) "__iter__" = pure (some (.builtin id))) (q : Q' false s) : wpAny M A (notIterableAtAll a) Q' E' s := by
  unfold notIterableAtAll
  refine wpAny_bind (wpAny_specialOf hT hl ?_)
  exact wpAny_pure q
theorem coll_list {l : Addr} {xs : List Value} {Q : List Value → Lo → AH → Prop} (hl : (l, AO.list xs) ∈ H) (hz : xs.length ≤ 1000000) (h : Q xs m H) : COLL C A fx (.ref l) m H Q X := fun a ha => by
  obtain rfl := er_eq_ref ha
  refine aw_look false (fun s S Q' E' q => ?_) ⟨rfl, ?_⟩
  · obtain ⟨vs, h1, h2⟩ := S.isList hl
    exact notIter_look h1.typeIs slot_list_iter.lookup q
  · intro s S
    obtain ⟨vs, ⟨o, ho, hc, n, hd⟩, h2⟩ := S.isList hl
    exact wpAny_collect_seq l (.inl rfl) ho hc hd (fun h' hk => ⟨m, H, (S.keeps (s' := { s with heap := h' }) hk).1, (S.keeps (s' := { s with heap := h' }) hk).2, by show Q (vs.toList.map er) m H; rw [h2]; exact h⟩) (by rw [size_of_er h2, sizeLine_eq]; omega)
theorem coll_tup {l : Addr} {xs : List Value} {Q : List Value → Lo → AH → Prop} (hl : (l, AO.tup xs) ∈ H) (hz : xs.length ≤ 1000000) (h : Q xs m H) : COLL C A fx (.ref l) m H Q X := fun a ha => by
  obtain rfl := er_eq_ref ha
  refine aw_look false (fun s S Q' E' q => ?_) ⟨rfl, ?_⟩
  · obtain ⟨vs, h1, h2⟩ := S.isTup hl
    exact notIter_look h1.typeIs slot_tuple_iter.lookup q
  · intro s S
    obtain ⟨vs, ⟨o, ho, hc, n, hd⟩, h2⟩ := S.isTup hl
    exact wpAny_collect_seq l (.inr rfl) ho hc hd (fun h' hk => ⟨m, H, (S.keeps (s' := { s with heap := h' }) hk).1, (S.keeps (s' := { s with heap := h' }) hk).2, by show Q (vs.toList.map er) m H; rw [h2]; exact h⟩) (by rw [size_of_er h2, sizeLine_eq]; omega)
theorem evs_star {e : PySem.Expr} {p : Pos} {r : List PySem.Expr} {pos : Pos} {Q : List Value → Lo → AH → Prop}
    (h : EV C A fx e m H (fun v m₁ H₁ => COLL C A fx v m₁ H₁ (fun xs m₂ H₂ => EVS C A fx r pos m₂ H₂ (fun vs => Q (xs ++ vs)) X) X) X) : EVS C A fx (.Starred e p :: r) pos m H Q X := by
  show AW C A fx (spliced ((true, do let v ← eval e fx.env; standAt pos; pure v) :: backTo pos (starEach r fx.env))) m H _ X
  rw [spliced]
  refine aw_bind (aw_bind (aw_mono h (fun v m₁ H₁ h₁ => ?_) fun _ _ _ x => x))
  refine aw_bind (aw_standAt ?_)
  refine aw_pure ?_
  simp only [if_true]
  refine aw_bind (aw_mono (h₁ v rfl) (fun b m₂ H₂ hb => ?_) fun _ _ _ x => x)
  obtain ⟨rfl, hb⟩ := hb
  simp only [Bool.false_eq_true, if_false]
  refine aw_bind (aw_mono hb (fun xs m₃ H₃ h₃ => aw_bind (aw_holding (aw_mono h₃ (fun vs _ _ h₄ => aw_pure ?_) fun _ _ _ x => x))) fun _ _ _ x => x)
  rw [List.map_append]; exact h₄

noncomputable def EVA (C : Cfg) (A : Around) (fx : Fx) (es : List PySem.Expr) (pos : Pos) (m : Lo) (H : AH) (Q : List Value → Lo → AH → Prop) (X : Value → Lo → AH → Prop) : Prop :=
  ∀ g, AW C A fx (evalArgs g true (backTo pos (starEach es fx.env)) []) m H (fun a m₁ H₁ => a.kw = [] ∧ Q (a.pos.map er) m₁ H₁) X
noncomputable def loneStar : List PySem.Expr → Bool
  | [.Starred ..] => true
  | _ => false
theorem star_cons (e : PySem.Expr) (r : List PySem.Expr) (env : Env) : ∃ s, starEach (e :: r) env = (loneStar [e], s) :: starEach r env := by cases e <;> exact ⟨_, rfl⟩
theorem evalArgs_plain (g : Value) (pos : Pos) (l : List (Bool × Sem Value)) (hl : ∀ s, l ≠ [(true, s)]) : evalArgs g true (backTo pos l) [] = (do
      let pos ← spliced (backTo pos l)
      holding (pos ++ []) (do let kw := ([] : List PySem.Str).zip (← evalAll []); return ⟨← pure pos, kw⟩)) := by
  rcases l with _ | ⟨⟨_ | _, s⟩, _ | ⟨y, r⟩⟩
  · rfl
  · rfl
  · rfl
  · exact absurd rfl (hl s)
  · rfl
theorem eva_plain {es : List PySem.Expr} {pos : Pos} {Q : List Value → Lo → AH → Prop} (h : EVS C A fx es pos m H Q X) (hl : loneStar es = false := by rfl) : EVA C A fx es pos m H Q X := by
  intro g
  show AW C A fx (evalArgs g true (backTo pos (starEach es fx.env)) []) m H _ X
  rw [evalArgs_plain g pos _ (by
    intro s hs
    rcases es with _ | ⟨e, r⟩
    · cases hs
    · obtain ⟨s', h'⟩ := star_cons e r fx.env
      rw [h'] at hs
      injection hs with h1 h2
      injection h1 with h1 _
      rcases r with _ | ⟨e', r⟩
      · rw [h1] at hl; cases hl
      · obtain ⟨s'', h''⟩ := star_cons e' r fx.env
        rw [h''] at h2; cases h2)]
  refine aw_bind (aw_mono h (fun vs m₁ H₁ h₁ => aw_holding ?_) fun _ _ _ x => x)
  exact aw_bind (aw_pure (aw_bind (aw_pure (aw_pure ⟨rfl, h₁⟩))))
theorem eva_lone {e : PySem.Expr} {p pos : Pos} {Q : List Value → Lo → AH → Prop} (h : EV C A fx e m H (fun v m₁ H₁ => COLL C A fx v m₁ H₁ Q X) X) : EVA C A fx [.Starred e p] pos m H Q X := by
  intro g
  show AW C A fx (evalArgs g true [(true, do let v ← eval e fx.env; standAt pos; pure v)] []) m H _ X
  unfold evalArgs
  refine aw_bind (aw_bind (aw_mono h (fun v m₁ H₁ h₁ => ?_) fun _ _ _ x => x))
  refine aw_bind (aw_standAt ?_)
  refine aw_pure ?_
  refine aw_bind (aw_pure ?_)
  refine aw_holding ?_
  refine aw_bind (aw_pure ?_)
  refine aw_bind (aw_bind (aw_mono (h₁ v rfl) (fun b m₂ H₂ hb => ?_) fun _ _ _ x => x))
  obtain ⟨rfl, hb⟩ := hb
  simp only [Bool.false_eq_true, if_false]
  refine aw_holding (aw_mono hb (fun vs _ _ h₂ => ?_) fun _ _ _ x => x)
  exact aw_pure ⟨rfl, h₂⟩

noncomputable def KP (C : Cfg) (A : Around) (fx : Fx) (f : Value) (m : Lo) (H : AH) : Prop := ∀ g, er g = f → ∀ s, St C A fx m H s → ∀ (Q' : Keeper → Shared → Prop) E', (∀ k, Q' k s) → wpAny (model C.prog C.w) A (keeperOf g) Q' E' s
theorem kp_builtin {id : String} : KP C A fx (.builtin id) m H := fun g hg s S Q' E' q => by obtain rfl := er_eq_builtin hg; exact wpAny_pure (q _)
theorem kp_type {n : String} : KP C A fx (.type n) m H := fun g hg s S Q' E' q => by obtain rfl := er_eq_type hg; exact wpAny_pure (q _)
theorem kp_fn {f : Addr} {o : Obj} {fd : FuncData} (ho : C.h₀.get? f = some o) (hd : o.data = .func fd) : KP C A fx (.ref f) m H := fun g hg s S Q' E' q => by
  obtain rfl := er_eq_ref hg
  refine wpAny_bind (wpAny_load (S.base _ _ ho) ?_)
  rw [hd]; exact wpAny_pure (q _)
theorem kp_cls {f : Addr} {o : Obj} {cd : ClassData} (ho : C.h₀.get? f = some o) (hd : o.data = .cls cd) (hX : K.In C.h₀) (hs : specialIn K (.ref f) "__call__" = some (some (.builtin "type.__call__"))) : KP C A fx (.ref f) m H := fun g hg s S Q' E' q => by
  obtain rfl := er_eq_ref hg
  refine wpAny_bind (wpAny_load (S.base _ _ ho) ?_)
  rw [hd]
  refine wpAny_bind ((looks_specialIn (hX.keeps S.base) hs).here (wpAny_pure (q _)))
theorem kp_method {f : Addr} {g : Addr} {vs : List Value} {o : Obj} {fd : FuncData} (hf : (f, AO.flds (.type "method") (.ref g :: vs)) ∈ H) (ho : C.h₀.get? g = some o) (hd : o.data = .func fd) : KP C A fx (.ref f) m H := fun g' hg s S Q' E' q => by
  obtain rfl := er_eq_ref hg
  obtain ⟨o', ho', c1, c2, ws, c3, c4⟩ := S.get hf
  obtain ⟨l, rfl⟩ : ∃ l, ws = List.toArray l := ⟨ws.toList, rfl⟩
  cases l with
  | nil => simp at c4
  | cons a l =>
    simp only [List.map_cons, List.cons.injEq] at c4
    obtain rfl := er_eq_ref c4.1
    refine wpAny_bind (wpAny_load ho' ?_)
    rw [c3]
    dsimp only
    rw [c1]
    rw [if_neg (by simp)]
    show wpAny _ _ (load g >>= _) _ _ _
    refine wpAny_bind (wpAny_load (S.base _ _ ho) ?_)
    rw [hd]
    exact wpAny_pure (q _)
theorem kp_bmethod {f : Addr} {T : String} {vs : List Value} (hf : (f, AO.flds (.type T) vs) ∈ H) (hT : T = "builtin_function_or_method" ∨ T = "method-wrapper") : KP C A fx (.ref f) m H := fun g' hg s S Q' E' q => by
  obtain rfl := er_eq_ref hg
  obtain ⟨o', ho', c1, c2, ws, c3, c4⟩ := S.get hf
  refine wpAny_bind (wpAny_load ho' ?_)
  rw [c3]
  dsimp only
  rw [c1]
  rcases hT with rfl | rfl
  · rw [if_pos (by decide)]
    exact wpAny_pure (q _)
  · rw [if_pos (by decide)]
    exact wpAny_pure (q _)

noncomputable def CW (C : Cfg) (A : Around) (fx : Fx) (f : Value) (first : List Value) (es : List PySem.Expr) (pos : Pos) (m : Lo) (H : AH) (Q : Value → Lo → AH → Prop) (X : Value → Lo → AH → Prop) : Prop :=
  ∀ pos' g vs, er g = f → vs.map er = first → AW C A fx (callWith pos' g vs (backTo pos (starEach es fx.env)) []) m H (fun v => Q (er v)) X
theorem cw {f : Value} {first : List Value} {es : List PySem.Expr} {pos : Pos} {Q : Value → Lo → AH → Prop}
    (h : EVA C A fx es pos m H (fun xs m₁ H₁ => KP C A fx f m₁ H₁ ∧ CALL C A fx f (first ++ xs) m₁ H₁ Q X) X) : CW C A fx f first es pos m H Q X := by
  intro pos' g vs hg hvs
  unfold callWith
  refine aw_bind (aw_holding (aw_mono (h g) (fun a m₁ H₁ h₁ => aw_bind (aw_standAt ?_)) fun _ _ _ x => x))
  obtain ⟨pl, kw⟩ := a
  obtain ⟨hkw, kp, hc⟩ := h₁
  dsimp only at hkw hc
  subst hkw
  have hc' := hc g (vs ++ pl) hg (by rw [List.map_append, hvs])
  have tail : ∀ {t : Sem Value}, AW C A fx t m₁ H₁ (fun v => Q (er v)) X → AW C A fx (t >>= fun r => holding [r] point >>= fun _ => pure r) m₁ H₁ (fun v => Q (er v)) X :=
    fun ht => aw_bind (aw_mono ht (fun r _ _ hr => aw_bind (aw_holding (aw_point (aw_pure hr)))) fun _ _ _ x => x)
  dsimp only
  refine aw_bind (m := m₁) (Q := _) (fun s S => kp g hg s S _ _ fun k => ⟨m₁, H₁, S, Ext.refl' S, ?_⟩)
  cases k <;> cases ((backTo pos (starEach es fx.env)).any fun x => x.1) <;> simp only [List.any_nil, Bool.or_false] <;>
    first
    | exact tail (by unfold callMarked; exact aw_keep hc')
    | exact tail hc'
    | exact tail (aw_operate hc')
    | (split <;> first | exact tail hc' | exact tail (by unfold callMarked; exact aw_keep hc'))
theorem ev_call {f : PySem.Expr} {es : List PySem.Expr} {pos : Pos} {Q : Value → Lo → AH → Prop} (h : EV C A fx f m H (fun x m₁ H₁ => CW C A fx x [] es pos m₁ H₁ Q X) X)
    (hc : eval (.Call f es [] pos) fx.env = (eval f fx.env >>= fun g => callWith pos g [] (backTo pos (starEach es fx.env)) (backToKw pos (keywordEach [] fx.env))) := by rfl) : EV C A fx (.Call f es [] pos) m H Q X := by
  show AW C A fx (eval _ _) m H _ X
  rw [hc]
  exact aw_bind (aw_mono h (fun g _ _ h₁ => h₁ pos g [] rfl rfl) fun _ _ _ x => x)

/-! ### methods -/
noncomputable def GM (C : Cfg) (A : Around) (fx : Fx) (x : Value) (n : PySem.Str) (m : Lo) (H : AH) (Q : Value → List Value → Lo → AH → Prop) (X : Value → Lo → AH → Prop) : Prop :=
  ∀ a pl, er a = x → AW C A fx (getMethod a n pl) m H (fun p => Q (er p.1) (p.2.map er)) X
theorem ev_mcall {o : PySem.Expr} {n : PySem.Str} {es : List PySem.Expr} {ap pos : Pos} {Q : Value → Lo → AH → Prop}
    (h : EV C A fx o m H (fun x m₁ H₁ => GM C A fx x n m₁ H₁ (fun f first m₂ H₂ => CW C A fx f first es pos m₂ H₂ Q X) X) X)
    (hb : attributeBase o n fx.env (eval o fx.env) = eval o fx.env := by rfl) (hf : methodCallForm (es.length + 0) (backTo pos (starEach es fx.env)) (backToKw pos (keywordEach [] fx.env)) = true := by rfl) (hl : (ap.endLine == pos.line) = true := by rfl) :
    EV C A fx (.Call (.Attribute o n ap) es [] pos) m H Q X := by
  show AW C A fx (eval _ _) m H _ X
  rw [arm_eval_Call, hb]
  refine aw_bind (aw_mono h (fun a m₁ H₁ h₁ => aw_bind (aw_standAt ?_)) fun _ _ _ x => x)
  unfold methodCall
  rw [show (es.length + ([] : List PySem.Keyword).length) = es.length + 0 from rfl, hf]
  unfold calleeOf methodCallPos
  rw [if_pos rfl]
  simp only [hl, Bool.not_true, Bool.false_or, if_true]
  refine aw_bind (aw_holding (aw_mono (h₁ a _ rfl) (fun p m₂ H₂ h₂ => ?_) fun _ _ _ x => x))
  exact aw_bind (aw_pure (h₂ pos p.1 p.2 rfl rfl))
theorem ev_mstar {o : PySem.Expr} {n : PySem.Str} {es : List PySem.Expr} {ap pos : Pos} {Q : Value → Lo → AH → Prop}
    (h : EV C A fx o m H (fun x m₁ H₁ => GA C A fx x n m₁ H₁ (fun f m₂ H₂ => CW C A fx f [] es pos m₂ H₂ Q X) X) X)
    (hb : attributeBase o n fx.env (eval o fx.env) = eval o fx.env := by rfl) (hf : methodCallForm (es.length + 0) (backTo pos (starEach es fx.env)) (backToKw pos (keywordEach [] fx.env)) = false := by rfl) :
    EV C A fx (.Call (.Attribute o n ap) es [] pos) m H Q X := by
  show AW C A fx (eval _ _) m H _ X
  rw [arm_eval_Call, hb]
  refine aw_bind (aw_mono h (fun a m₁ H₁ h₁ => aw_bind (aw_standAt ?_)) fun _ _ _ x => x)
  unfold methodCall
  rw [show (es.length + ([] : List PySem.Keyword).length) = es.length + 0 from rfl, hf]
  unfold calleeOf methodCallPos
  simp only [Bool.false_eq_true, if_false, Bool.not_false, Bool.true_or, if_true]
  refine aw_bind (aw_holding (aw_bind (aw_mono (h₁ a rfl) (fun f m₂ H₂ h₂ => aw_pure ?_) fun _ _ _ x => x)))
  exact aw_bind (aw_pure (h₂ pos f [] rfl rfl))
end
end Mine

namespace Mine
open PySem PySem.W PyProof.Rows
open Sem (wp)

section
variable {α : Type} {C : Cfg} {A A' : Around} {fx fx' : Fx} {m m' : Lo} {H H' : AH} {X : Value → Lo → AH → Prop} {K : Frag} {s s' : Shared}

/-! ### the same under another around with the same frames -/
theorem St.inA (S : St C A fx m H s) (e : A'.frames = A.frames) : St C A' fx m H s := { S with frs := e ▸ S.frs, frA := fun b hb => S.frA b (by unfold frameAddrs at hb ⊢; rw [← e]; exact hb) }
theorem Ext.inA (E : Ext A fx H s H' s') (e : A'.frames = A.frames) : Ext A' fx H s H' s' :=
  ⟨E.fresh, fun b o h1 h2 h3 => let ⟨sl, a, c⟩ := E.hid b o h1 h2 h3; ⟨sl, a, fun h => c (by unfold frameAddrs at h ⊢; rw [← e]; exact h)⟩, E.wapart⟩
/-! ### the names of a new frame -/
theorem bindL_get {k : PySem.Str → Option NameKind} : ∀ {binds : List (PySem.Str × Value)} {m : PySem.Str → Option Value} {n : PySem.Str} {v : Value}, (binds.map (·.1)).Nodup → (n, v) ∈ binds → k n = some .local → bindL k binds m n = some v
  | (n', v') :: r, m, n, v, hn, hm, hk => by
    obtain ⟨h1, h2⟩ := List.nodup_cons.mp hn
    have keep : ∀ (r : List (PySem.Str × Value)) (m : PySem.Str → Option Value), n ∉ r.map (·.1) → bindL k r m n = m n := by
      intro r
      induction r with
      | nil => intro m _; rfl
      | cons p r ih =>
        intro m hp
        obtain ⟨a, b⟩ := p
        rw [List.map_cons, List.mem_cons, not_or] at hp
        unfold bindL
        rw [ih _ hp.2]
        split
        · exact if_neg hp.1
        · rfl
    unfold bindL
    rcases List.mem_cons.mp hm with e | hm
    · cases e
      rw [keep r _ h1, if_pos hk]
      exact if_pos rfl
    · exact bindL_get h2 hm hk
theorem bindC_get {k : PySem.Str → Option NameKind} : ∀ {binds : List (PySem.Str × Value)} {m : PySem.Str → Option Value} {n : PySem.Str} {v : Value}, (binds.map (·.1)).Nodup → (n, v) ∈ binds → k n = some .cell → bindC k binds m n = some v
  | (n', v') :: r, m, n, v, hn, hm, hk => by
    obtain ⟨h1, h2⟩ := List.nodup_cons.mp hn
    have keep : ∀ (r : List (PySem.Str × Value)) (m : PySem.Str → Option Value), n ∉ r.map (·.1) → bindC k r m n = m n := by
      intro r
      induction r with
      | nil => intro m _; rfl
      | cons p r ih =>
        intro m hp
        obtain ⟨a, b⟩ := p
        rw [List.map_cons, List.mem_cons, not_or] at hp
        unfold bindC
        rw [ih _ hp.2]
        split
        · rfl
        · exact if_neg hp.1
    unfold bindC
    rcases List.mem_cons.mp hm with e | hm
    · cases e
      rw [keep r _ h1, if_neg (by rw [hk]; decide)]
      exact if_pos rfl
    · exact bindC_get h2 hm hk
theorem cellsFrom_acc : ∀ (names : List (PySem.Str × NameKind)) (n : Nat) (acc : List (PySem.Str × Addr)) (x : PySem.Str), (acc.lookup x).isSome = true ∨ (x, NameKind.cell) ∈ names → ((cellsFrom n names acc).lookup x).isSome = true
  | [], _, _, _, h => by
    rcases h with h | h
    · exact h
    · cases h
  | (y, k) :: r, n, acc, x, h => by
    unfold cellsFrom
    by_cases hk : (k == NameKind.cell) = true
    · rw [if_pos hk]
      refine cellsFrom_acc r _ _ x ?_
      by_cases hxy : x = y
      · subst hxy; left; simp
      · have hb : (x == y) = false := beq_eq_false_iff_ne.mpr hxy
        rcases h with h | h
        · left; rw [List.lookup_cons, hb]; exact h
        · rcases List.mem_cons.mp h with e | h
          · cases e; exact absurd rfl hxy
          · exact .inr h
    · rw [if_neg hk]
      refine cellsFrom_acc r _ _ x ?_
      rcases h with h | h
      · exact .inl h
      · rcases List.mem_cons.mp h with e | h
        · cases e; exact absurd rfl hk
        · exact .inr h
theorem cellsFrom_some {names : List (PySem.Str × NameKind)} {n : Nat} {x : PySem.Str} (h : names.lookup x = some .cell) : ∃ c, (cellsFrom n names []).lookup x = some c :=
  Option.isSome_iff_exists.mp (cellsFrom_acc names n [] x (.inr (mem_of_lookup h)))

noncomputable def erB (binds : List (PySem.Str × Value)) : Lo := binds.map fun b => (b.1, er b.2)

structure FxIs (fx : Fx) (fd : FuncData) (f : Addr) : Prop where
  scope : fx.env.scope = fd.scope
  code : fx.env.code = fd.code
  func : fx.env.func = some f
  frame : fx.env.frame = some fx.env.locals
  qual : fx.env.qual = fd.qualname ++ ".<locals>."
  W : ∀ x c, fx.env.cells.lookup x = some c → c ∈ fx.W
theorem FxIs.kindOf {fd : FuncData} {f : Addr} (h : FxIs fx fd f) (x : PySem.Str) : fx.env.kindOf x = fd.scope.names.lookup x := by unfold Env.kindOf; rw [h.scope]

noncomputable def retV : Flow → Value
  | .ret v => v
  | _ => .none
theorem retV_er {f : Flow} : retV (erF f) = er (retV f) := by cases f <;> rfl

structure BindOk (fd : FuncData) (binds : List (PySem.Str × Value)) : Prop where
  kinds : ∀ x ∈ binds, fd.scope.names.lookup x.1 = some .local ∨ fd.scope.names.lookup x.1 = some .cell
  nodup : (binds.map (·.1)).Nodup

theorem St.enter {fd : FuncData} {f : Addr} {binds : List (PySem.Str × Value)} {env : Env} (S : St C A fx m H s) (hb : BindOk fd binds) (hk : fd.scope.kind = .function) (hg : fd.globals = mainGlobals) (hbi : fd.builtins = builtinsNs)
    (he : env = newEnv fd.scope s.heap.objs.size fd.globals (cellsFrom (s.heap.objs.size + 1) fd.scope.names []) (fd.qualname ++ ".<locals>.") (some f) fd.code none fd.builtins)
    (x : InCallC s env.locals (bindL env.kindOf binds fun _ => none) env.cells (bindC env.kindOf binds fun _ => none) s') :
    let fx' : Fx := ⟨env, env.locals :: env.cells.filterMap fun p => env.cells.lookup p.1⟩
    St C (A.deeper env) fx' (erB binds) H s' ∧ FxIs fx' fd f ∧ ∀ b ∈ fx'.W, s.heap.objs.size ≤ b := by
  intro fx'
  have hL : env.locals = s.heap.objs.size := by rw [he]; rfl
  have hkd : ∀ y, env.kindOf y = fd.scope.names.lookup y := fun y => by rw [he]; rfl
  have hcs : env.cells = cellsFrom (s.heap.objs.size + 1) fd.scope.names [] := by rw [he]; rfl
  have keep := x.toInCall.keep
  obtain ⟨h', tk, hs', _⟩ := x.done
  have hW : ∀ b ∈ fx'.W, s.heap.objs.size ≤ b := fun b hb => by
    rcases List.mem_cons.mp hb with rfl | hb
    · exact x.toInCall.fresh
    · obtain ⟨p, hp, e⟩ := List.mem_filterMap.mp hb
      exact Nat.le_of_lt (Nat.lt_of_le_of_lt x.toInCall.fresh (x.above p.1 b (mem_of_lookup e)))
  have lt : ∀ b ∈ H.keys, b < s.heap.objs.size := fun b hb => S.key_lt hb
  have apart : ∀ b ∈ fx'.W, b ∉ H.keys := fun b hb hm => Nat.lt_irrefl _ (Nat.lt_of_lt_of_le (lt b hm) (hW b hb))
  have none' : ∀ b, s.heap.objs.size ≤ b → C.h₀.get? b = none := fun b hb => S.base_none (none_of_le hb)
  have hcell : ∀ y c, env.cells.lookup y = some c → c ∈ fx'.W := fun y c e => List.mem_cons_of_mem _ (List.mem_filterMap.mpr ⟨_, mem_of_lookup e, e⟩)
  refine ⟨⟨fun b o e => keep b o (S.base b o e), fun p hp => let ⟨o, h1, h2⟩ := S.cells p hp; ⟨o, keep _ _ h1, h2⟩, S.low, fun b hb => ?_, S.nodup, apart, (congrArg (fun e : Env => e.scope.kind) he).trans hk, ⟨(congrArg Env.globals he).trans hg, (congrArg Env.builtins he).trans hbi⟩, List.mem_cons_self,
    fun b hb => ?_, ⟨_, x.toInCall.ns⟩, fun y hy => ?_, fun y c e => ?_, fun y z c e1 e2 => name_of_addr x.apart (mem_of_lookup e1) (mem_of_lookup e2), fun y v hv => ?_, ?_, fun b hb => ?_, ?_, ?_⟩, ⟨congrArg Env.scope he, congrArg Env.code he, congrArg Env.func he, (congrArg Env.frame he).trans (congrArg some hL.symm), congrArg Env.qual he, hcell⟩, hW⟩
  · rcases hb with hb | hb
    · exact S.above b (.inl hb)
    · exact none' b (hW b hb)
  · rcases List.mem_cons.mp hb with rfl | hb
    · obtain ⟨o, _, _, e, _⟩ := x.toInCall.ns; exact ⟨o, e⟩
    · obtain ⟨p, hp, e⟩ := List.mem_filterMap.mp hb
      obtain ⟨o, e, _⟩ := x.cell _ _ e
      exact ⟨o, e⟩
  · rw [hkd] at hy
    obtain ⟨c, hc⟩ := cellsFrom_some (n := s.heap.objs.size + 1) hy
    exact ⟨c, by rw [hcs]; exact hc⟩
  · exact ⟨⟨_, x.cell y c e⟩, apart c (hcell y c e), none' c (hW c (hcell y c e)), Nat.ne_of_gt (x.above y c (mem_of_lookup e))⟩
  · obtain ⟨p, hp, e⟩ := List.mem_map.mp hv
    cases e
    rcases hb.kinds p hp with h | h
    · exact .inl ⟨(hkd _).trans h, _, _, x.toInCall.ns, bindL_get hb.nodup hp ((hkd _).trans h), rfl⟩
    · obtain ⟨c, hc⟩ := cellsFrom_some (n := s.heap.objs.size + 1) h
      rw [← hcs] at hc
      exact .inr ⟨.inl ((hkd _).trans h), c, p.2, hc, by have := x.cell _ _ hc; rwa [bindC_get hb.nodup hp ((hkd _).trans h)] at this, rfl⟩
  · obtain ⟨l, hl, hF⟩ := S.frs
    exact ⟨env :: l, Around.frames_deeper hl, Heap.FunFrames.cons (by rw [show env.scope.kind = .function from (congrArg (fun e : Env => e.scope.kind) he).trans hk]; decide) (by rw [hL]; exact congrArg Env.frame he) x.toInCall.ns (none' _ (hW _ List.mem_cons_self))
      (hF.of_keeps fun b o h1 h2 => ⟨o, keep b o h1, rfl⟩)⟩
  · obtain ⟨l, hl, hF⟩ := S.frs
    unfold frameAddrs at hb
    rw [Around.frames_deeper hl] at hb
    have hfr : env.frame = some env.locals := by rw [hL]; exact congrArg Env.frame he
    rw [Option.getD_some, List.filterMap_cons, hfr] at hb
    rcases List.mem_cons.mp hb with rfl | hb
    · exact apart _ List.mem_cons_self
    · exact S.frA b (by unfold frameAddrs; rw [hl]; exact hb)
  · rw [hs']; exact S.gens
  · rw [hs']; exact S.os

theorem St.leave {m'' : Lo} {H'' : AH} {s'' : Shared} {env : Env} {fx' : Fx} (S : St C A fx m H s) (keep : ∀ b o, s.heap.get? b = some o → s'.heap.get? b = some o) (hW : ∀ b ∈ fx'.W, s.heap.objs.size ≤ b)
    (hf : ∃ L ∈ fx'.W, env.frame = some L) (S'' : St C (A.deeper env) fx' m'' H'' s'') (E : Ext (A.deeper env) fx' H s' H'' s'') : St C A fx m H'' s'' ∧ Ext A fx H s H'' s'' := by
  obtain ⟨L, hL, hfL⟩ := hf
  refine S.upd (fun b o e hn => ?_) S''.cells (fun b hb => ?_) S''.nodup S''.gens (S''.os.trans S.os.symm)
  · have hlt := Heap.lt_size e
    have hbW : b ∉ fx'.W := fun h => Nat.lt_irrefl _ (Nat.lt_of_lt_of_le hlt (hW b h))
    obtain ⟨sl, e', hs⟩ := E.hid b o (keep b o e) hn hbW
    refine ⟨sl, e', fun hA => hs fun hm => ?_⟩
    obtain ⟨l, hl, _⟩ := S.frs
    unfold frameAddrs at hm hA
    rw [Around.frames_deeper hl, Option.getD_some, List.filterMap_cons, hfL] at hm
    rw [hl] at hA
    rcases List.mem_cons.mp hm with rfl | hm
    · exact hbW hL
    · exact hA hm
  · rcases E.fresh b hb with h | h
    · exact .inl h
    · refine .inr ?_
      cases q : s.heap.get? b with
      | none => rfl
      | some o => rw [keep b o q] at h; cases h

structure FnAt (C : Cfg) (f : Addr) (fd : FuncData) (body : List Stmt) : Prop where
  obj : ∃ o, C.h₀.get? f = some o ∧ o.data = .func fd
  body : fd.body = .stmts body
  clo : fd.closure = []
  glob : fd.globals = mainGlobals
  blt : fd.builtins = builtinsNs
  code : C.h₀.CodeRec fd.code fd.qualname
  limit : C.h₀.NoLimit
  co : fd.scope.isCoroutine = false
  gen : fd.scope.isGenerator = false
  kind : fd.scope.kind = .function

noncomputable def CALLC (C : Cfg) (A : Around) (fx : Fx) (f : Value) (xs : List Value) (m : Lo) (H : AH) (Q : Value → Lo → AH → Prop) (X : Value → Lo → AH → Prop) : Prop := ∀ g vs, er g = f → vs.map er = xs → ∀ s, St C A fx m H s →
  codeAny (model C.prog C.w) A (.call g ⟨vs, []⟩) (fun r s' => match r with
    | .ok (.ret v) => ∃ m' H', St C A fx m' H' s' ∧ Ext A fx H s H' s' ∧ Q (er v) m' H'
    | .ok _ => False
    | .error e => ∃ m' H', St C A fx m' H' s' ∧ Ext A fx H s H' s' ∧ X e m' H') s
theorem CALLC.call {f : Value} {xs : List Value} {Q : Value → Lo → AH → Prop} (h : CALLC C A fx f xs m H Q X) : CALL C A fx f xs m H Q X := fun g vs hg hvs s S => wpAny_call (h g vs hg hvs s S)
theorem call_fn {f : Addr} {fd : FuncData} {body : List Stmt} {xs : List Value} {Q : Value → Lo → AH → Prop} (F : FnAt C f fd body) (room : A.depth < recursionLimit)
    (h : ∀ vs, vs.map er = xs → AW C A.in1 fx (bindArgs fd ⟨vs, []⟩) m H (fun binds m₁ H₁ => BindOk fd binds ∧ ∃ X' : Fx → Value → Lo → AH → Prop, (∀ fx', FxIs fx' fd f → EXS C (A.deeper fx'.env) fx' body (erB binds) H₁ (fun fl _ H₂ => Q (retV fl) m₁ H₂) (X' fx')) ∧
      (∀ fx', FxIs fx' fd f → ∀ e m₂ H₂, X' fx' e m₂ H₂ → AW C (A.deeper fx'.env) fx' (leaving fx'.env e) m₂ H₂ (fun _ _ H₃ => X e m₁ H₃) (fun e' _ H₃ => X e' m₁ H₃))) X) :
    CALLC C A fx (.ref f) xs m H Q X := by
  intro g vs hg hvs
  obtain rfl := er_eq_ref hg
  intro s S
  obtain ⟨o, ho, hd⟩ := F.obj
  refine codeAny_call_function room (S.base _ _ ho) hd F.co F.gen F.body ?_ ?_
  · obtain ⟨c, oc, ws, t, h1, h2, h3, h4⟩ := F.code
    exact ⟨c, oc, ws, t, h1, S.base _ _ h2, h3, h4⟩
  refine wpAny_mono (h vs hvs s (S.inA rfl)) (fun binds s₁ h₁ => ?_) (fun e s₁ h₁ => ?_)
  · obtain ⟨m₁, H₁, S₁, E₁, hb, X', hbody, hX⟩ := h₁
    have S₁ := S₁.inA (A' := A) rfl
    have E₁ := E₁.inA (A' := A) rfl
    rw [F.clo]
    refine wpAny_newFunctionEnv_cells F.kind (fun x hx => ?_) fun env he s' x => ?_
    · rcases hb.kinds x hx with h | h
      · exact .inl h
      · obtain ⟨c, hc⟩ := cellsFrom_some (n := s₁.heap.objs.size + 1) h
        exact .inr ⟨h, by rw [hc]; rfl⟩
    obtain ⟨S₂, I, hW⟩ := S₁.enter hb F.kind F.glob F.blt he x
    have keep := x.toInCall.keep
    have hfr : ∃ L ∈ (⟨env, env.locals :: env.cells.filterMap fun p => env.cells.lookup p.1⟩ : Fx).W, env.frame = some L := ⟨_, List.mem_cons_self, I.frame⟩
    refine ⟨F.limit.keeps fun b o e => S₂.base b o e, codeAny_func (wpAny_mono (hbody _ I s' S₂) (fun fl s₃ h₃ => ?_) fun e s₃ h₃ => ?_)⟩
    · obtain ⟨m₃, H₃, S₃, E₃, q⟩ := h₃
      obtain ⟨S₄, E₄⟩ := S₁.leave keep hW hfr S₃ E₃
      have q : Q (retV (erF fl)) m₁ H₃ := q
      rw [retV_er] at q
      cases fl <;> exact ⟨m₁, H₃, S₄, E₁.trans E₄, q⟩
    · obtain ⟨m₃, H₃, S₃, E₃, q⟩ := h₃
      refine wpAny_mono (hX _ I e m₃ H₃ q s₃ S₃) (fun _ s₄ h₄ => ?_) fun e' s₄ h₄ => ?_
      · obtain ⟨m₄, H₄, S₄, E₄, q⟩ := h₄
        obtain ⟨S₅, E₅⟩ := S₁.leave keep hW hfr S₄ (E₃.trans E₄)
        exact ⟨m₁, H₄, S₅, E₁.trans E₅, q⟩
      · obtain ⟨m₄, H₄, S₄, E₄, q⟩ := h₄
        obtain ⟨S₅, E₅⟩ := S₁.leave keep hW hfr S₄ (E₃.trans E₄)
        exact ⟨m₁, H₄, S₅, E₁.trans E₅, q⟩
  · obtain ⟨m₁, H₁, S₁, E₁, q⟩ := h₁
    exact ⟨m₁, H₁, S₁.inA rfl, E₁.inA rfl, q⟩
theorem aw_binds {fd : FuncData} {vs : List Value} {binds : List (PySem.Str × Value)} {Q : List (PySem.Str × Value) → Lo → AH → Prop} (e : bindArgs fd ⟨vs, []⟩ = pure binds) (h : Q binds m H) : AW C A fx (bindArgs fd ⟨vs, []⟩) m H Q X := by
  rw [e]; exact aw_pure h
end
end Mine

namespace Mine
open PySem PySem.W PyProof.Rows
open Sem (wp)

section
variable {α : Type} {C : Cfg} {A A' : Around} {fx fx' : Fx} {m m' m₁ : Lo} {H H' H₁ : AH} {X : Value → Lo → AH → Prop} {K : Frag} {s s' s₁ : Shared} {Q : Flow → Lo → AH → Prop}

/-! ### an object set aside: in no abstract heap -/
structure Off (C : Cfg) (A : Around) (fx : Fx) (I : Addr) : Prop where
  base : C.h₀.get? I = none
  W : I ∉ fx.W
  cell : ∀ x c, fx.env.cells.lookup x = some c → c ≠ I
  frame : I ∉ frameAddrs A
theorem Off.of {I : Addr} (S₁ : St C A fx m₁ H₁ s₁) (hI : s₁.heap.get? I = none) : Off C A fx I := by
  have ne : ∀ b o, s₁.heap.get? b = some o → b ≠ I := fun b o e q => by rw [q, hI] at e; cases e
  refine ⟨S₁.base_none hI, fun hb => let ⟨o, e⟩ := S₁.wlt I hb; ne I o e rfl, fun x c e => let ⟨⟨r, o, ho, _⟩, _⟩ := S₁.cellA x c e; ne c o ho, fun hb => ?_⟩
  obtain ⟨l, hl, hF⟩ := S₁.frs
  unfold frameAddrs at hb
  rw [hl] at hb
  obtain ⟨_, o', ho', _⟩ := hF.mem hb
  exact ne _ o' ho' rfl
theorem lt_down {i n : Nat} (h : i < n) : n - (i + 1) < n - i := Nat.sub_lt_sub_left h (Nat.lt_succ_self i)
theorem St.aside {I : Addr} (S : St C A fx m H s) (F : Off C A fx I) (hI : ∀ o, s₁.heap.get? I = some o → I ∈ H₁.keys ∨ I ∈ fx.W) (E : Ext A fx H₁ s₁ H s) (hIH : I ∉ H.keys)
    (hk : ∀ b o, b ≠ I → s.heap.get? b = some o → s'.heap.get? b = some o) (hg : s'.gens = s.gens := by rfl) (hos : s'.os = s.os := by rfl) : St C A fx m H s' ∧ Ext A fx H₁ s₁ H s' := by
  have neW : ∀ b ∈ fx.W, b ≠ I := fun b hb q => F.W (q ▸ hb)
  have neL := neW _ S.locW
  refine ⟨⟨fun b o e => hk b o (fun q => by rw [q, F.base] at e; cases e) (S.base b o e), fun p hp => ?_, S.low, S.above, S.nodup, S.apart, S.kind, S.glob, S.locW, fun b hb => ?_, ?_, S.cellW, fun x c e => ?_, S.cellI, fun x v hv => ?_, ?_, S.frA, hg ▸ S.gens, hos.trans S.os⟩,
    ⟨E.fresh, fun b o e h1 h2 => ?_, E.wapart⟩⟩
  · obtain ⟨o, h1, h2⟩ := S.cells p hp
    exact ⟨o, hk _ _ (fun q => hIH (q ▸ mem_keys hp)) h1, h2⟩
  · obtain ⟨o, e⟩ := S.wlt b hb
    exact ⟨o, hk b o (neW b hb) e⟩
  · obtain ⟨mr, hm⟩ := S.loc
    exact ⟨mr, ns_kept hm fun o e => ⟨o.slots, hk _ _ neL e⟩⟩
  · obtain ⟨⟨r, hr⟩, h1, h2, h3⟩ := S.cellA x c e
    exact ⟨⟨r, cell_kept hr fun o e' => ⟨o.slots, hk _ _ (F.cell x c e) e'⟩⟩, h1, h2, h3⟩
  · exact vars_kept (S.vars x v hv) (fun o e => ⟨o.slots, hk _ _ neL e⟩) fun c e o e' => ⟨o.slots, hk _ _ (F.cell x c e) e'⟩
  · obtain ⟨l, hl, hF⟩ := S.frs
    have hfr := F.frame
    unfold frameAddrs at hfr
    rw [hl, Option.getD_some] at hfr
    refine ⟨l, hl, ?_⟩
    clear hl
    induction l with
    | nil => trivial
    | cons env rest ih =>
      obtain ⟨h1, ⟨L, o, hL, hb, ho, hd⟩, hr⟩ := hF
      rw [List.filterMap_cons, hL] at hfr
      exact ⟨h1, ⟨L, o, hL, hb, hk _ _ (fun q => hfr (q ▸ List.mem_cons_self)) ho, hd⟩, ih hr fun h => hfr (List.mem_cons_of_mem _ h)⟩
  · obtain ⟨sl, e', hs⟩ := E.hid b o e h1 h2
    exact ⟨sl, hk b _ (fun q => by subst q; rcases hI o e with h | h <;> contradiction) e', hs⟩
theorem St.adopt {I : Addr} {o : Obj} {ao : AO} (S : St C A fx m H s) (F : Off C A fx I) (hI : s₁.heap.get? I = none) (E : Ext A fx H₁ s₁ H s) (hIH : I ∉ H.keys) (hm : sysModules < I) (ho : s.heap.get? I = some o) (hr : OR C o ao) :
    St C A fx m ((I, ao) :: H) s ∧ Ext A fx H₁ s₁ ((I, ao) :: H) s := by
  have neW : ∀ b ∈ fx.W, b ≠ I := fun b hb q => F.W (q ▸ hb)
  have cons : ∀ b, b ≠ I → b ∉ H.keys → b ∉ AH.keys ((I, ao) :: H) := fun b h1 h2 h => (List.mem_cons.mp h).elim h1 h2
  refine ⟨{ S with cells := fun p hp => ?_, above := fun b hb => ?_, nodup := List.nodup_cons.mpr ⟨hIH, S.nodup⟩, apart := fun b hb => cons b (neW b hb) (S.apart b hb), cellA := fun x c e => ?_, frA := fun b hb => cons b (fun q => F.frame (q ▸ hb)) (S.frA b hb) },
    ⟨fun b hb => ?_, E.hid, fun b hb => cons b (neW b hb) (E.wapart b hb)⟩⟩
  · rcases List.mem_cons.mp hp with rfl | hp
    · exact ⟨o, ho, hr⟩
    · exact S.cells p hp
  · rcases hb with hb | hb
    · rcases List.mem_cons.mp hb with rfl | hb
      · exact F.base
      · exact S.above b (.inl hb)
    · exact S.above b (.inr hb)
  · obtain ⟨h1, h2, h3⟩ := S.cellA x c e
    exact ⟨h1, cons c (F.cell x c e) h2, h3⟩
  · rcases List.mem_cons.mp hb with rfl | hb
    · exact .inr hI
    · exact E.fresh b hb
theorem Ext.kept {I : Addr} {o : Obj} (E : Ext A fx H s H' s') (S : St C A fx m H s) (ho : s.heap.get? I = some o) (h1 : I ∉ H.keys) (h2 : I ∉ fx.W) (h3 : I ∉ frameAddrs A) : s'.heap.get? I = some o ∧ I ∉ H'.keys := by
  obtain ⟨sl, e, hs⟩ := E.hid I o ho h1 h2
  rw [hs h3] at e
  refine ⟨e, fun hm => ?_⟩
  rcases E.fresh I hm with h | h
  · exact h1 h
  · rw [ho] at h; cases h
theorem none_notKey {I : Addr} (S₁ : St C A fx m₁ H₁ s₁) (hI : s₁.heap.get? I = none) : I ∉ H₁.keys := fun hm => by obtain ⟨p, hp, e⟩ := List.mem_map.mp hm; obtain ⟨o, ho, _⟩ := S₁.cells p hp; rw [e, hI] at ho; cases ho

/-! ### plain statements -/
theorem ex_break {pos : Pos} (h : Q .brk m H) : EX C A fx (.Break pos) m H Q X := aw_bind (aw_standAt (aw_pure h))
theorem ex_continue {pos : Pos} (h : Q .cont m H) : EX C A fx (.Continue pos) m H Q X := aw_bind (aw_standAt (aw_pure h))
theorem ex_return {e : PySem.Expr} {pos : Pos} (h : EV C A fx e m H (fun v => Q (.ret v)) X) : EX C A fx (.Return (some e) pos) m H Q X := by
  show AW C A fx (exec _ _) m H _ X
  rw [arm_exec_Return]
  exact aw_bind (aw_standAt (aw_bind (aw_mono h (fun v _ _ h₁ => aw_pure h₁) fun _ _ _ x => x)))
theorem ex_if {t : PySem.Expr} {b o : List Stmt} {pos : Pos} (h : IT C A fx t m H (fun c m₁ H₁ => if c = true then EXS C A fx b m₁ H₁ Q X else EXS C A fx o m₁ H₁ Q X) X) : EX C A fx (.If t b o pos) m H Q X := by
  show AW C A fx (exec _ _) m H _ X
  rw [arm_exec_If]
  refine aw_bind (aw_standAt (aw_bind (aw_mono h (fun c m₁ H₁ hc => ?_) fun _ _ _ x => x)))
  cases c <;> simpa using hc
theorem ex_expr {e : PySem.Expr} {pos : Pos} (h : EV C A fx e m H (fun _ m₁ H₁ => Q .next m₁ H₁) X) (hs : swapsWith e none pos.line fx.env = pure false := by rfl) : EX C A fx (.Expr e pos) m H Q X := by
  intro s S
  have hi : interactive fx.env = false := by unfold interactive; rw [S.kind]; rfl
  rw [arm_exec_Expr, hi, hs]
  refine wpAny_bind (wpAny_standAt ?_)
  rw [if_neg (by decide)]
  refine wpAny_bind (wpAny_pure ?_)
  rw [if_neg (by decide)]
  refine wpAny_bind (wpAny_mono (h s S) (fun v s₁ h₁ => ?_) fun _ _ x => x)
  exact wpAny_dropValue h₁

/-! ### targets -/
noncomputable def ASG (C : Cfg) (A : Around) (fx : Fx) (t : PySem.Expr) (v : Value) (m : Lo) (H : AH) (Q : Lo → AH → Prop) (X : Value → Lo → AH → Prop) : Prop := ∀ a, er a = v → AW C A fx (assign t fx.env a) m H (fun _ => Q) X
theorem asg_name {x : PySem.Str} {pos : Pos} {v : Value} {Q : Lo → AH → Prop} (hk : Own fx x) (h : Q (m.put x v) H) : ASG C A fx (.Name x pos) v m H Q X := fun a ha => by
  rw [arm_assign_Name]
  exact aw_bind (aw_standAt (aw_bindName (aw_store hk (by rw [ha]; exact h))))
theorem asg_attr {o : PySem.Expr} {n : PySem.Str} {pos : Pos} {v : Value} {Q : Lo → AH → Prop} (h : EV C A fx o m H (fun x m₁ H₁ => SA C A fx x n v m₁ H₁ Q X) X) : ASG C A fx (.Attribute o n pos) v m H Q X := fun a ha => by
  rw [arm_assign_Attribute]
  exact aw_bind (aw_holding (aw_mono h (fun x m₁ H₁ h₁ => aw_bind (aw_standAt (aw_bind (aw_holding (aw_mono (h₁ x a rfl ha) (fun _ _ _ h₂ => aw_release h₂) fun _ _ _ x => x))))) fun _ _ _ x => x))
theorem asg_sub {o i : PySem.Expr} {pos : Pos} {v : Value} {Q : Lo → AH → Prop} (h : EV C A fx o m H (fun x m₁ H₁ => EV C A fx i m₁ H₁ (fun y m₂ H₂ => SI C A fx x y v m₂ H₂ Q X) X) X) : ASG C A fx (.Subscript o i pos) v m H Q X := fun a ha => by
  rw [arm_assign_Subscript]
  exact aw_bind (aw_holding (aw_mono h (fun x m₁ H₁ h₁ => aw_bind (aw_holding (aw_mono h₁ (fun y m₂ H₂ h₂ => aw_bind (aw_standAt (aw_bind (aw_holding (aw_mono (h₂ x y a rfl rfl ha) (fun _ _ _ h₃ => aw_release h₃) fun _ _ _ x => x))))) fun _ _ _ x => x))) fun _ _ _ x => x))
noncomputable def ASGS (C : Cfg) (A : Around) (fx : Fx) (ts : List PySem.Expr) (v : Value) (m : Lo) (H : AH) (Q : Lo → AH → Prop) (X : Value → Lo → AH → Prop) : Prop := ∀ a, er a = v → AW C A fx (assignAll a ((assignEach ts fx.env).map (·.2))) m H (fun _ => Q) X
theorem asgs_one {t : PySem.Expr} {v : Value} {Q : Lo → AH → Prop} (h : ASG C A fx t v m H Q X) (he : assignEach [t] fx.env = [(false, assign t fx.env)] := by rfl) : ASGS C A fx [t] v m H Q X := fun a ha => by rw [he]; exact h a ha
theorem asgs_two {t u : PySem.Expr} {v : Value} {Q : Lo → AH → Prop} (h : ASG C A fx t v m H (fun m₁ H₁ => ASG C A fx u v m₁ H₁ Q X) X) (he : assignEach [t, u] fx.env = [(false, assign t fx.env), (false, assign u fx.env)] := by rfl) : ASGS C A fx [t, u] v m H Q X := fun a ha => by
  rw [he]
  exact aw_bind (aw_holding (aw_mono (h a ha) (fun _ _ _ h₁ => h₁ a ha) fun _ _ _ x => x))
theorem ex_assign {ts : List PySem.Expr} {e : PySem.Expr} {pos : Pos} (h : EV C A fx e m H (fun v m₁ H₁ => ASGS C A fx ts v m₁ H₁ (Q .next) X) X)
    (hs : swapsWithSole ts e pos.line fx.env = pure false := by rfl) (hw : swappedStores ts e fx.env = pure none := by rfl) : EX C A fx (.Assign ts e pos) m H Q X := by
  show AW C A fx (exec _ _) m H _ X
  rw [arm_exec_Assign, hs]
  refine aw_bind (aw_standAt (aw_bind (aw_pure ?_)))
  rw [if_neg (by decide)]
  refine aw_bind (aw_mono h (fun v m₁ H₁ h₁ => ?_) fun _ _ _ x => x)
  rw [hw]
  refine aw_bind (aw_pure ?_)
  exact aw_bind (aw_mono (h₁ v rfl) (fun _ _ _ h₂ => aw_pure h₂) fun _ _ _ x => x)
theorem ex_aug_attr {o : PySem.Expr} {n : PySem.Str} {tp pos : Pos} {op : Operator} {e : PySem.Expr}
    (h : EV C A fx o m H (fun x m₁ H₁ => GA C A fx x n m₁ H₁ (fun v m₂ H₂ => EV C A fx e m₂ H₂ (fun y m₃ H₃ => IO C A fx op v y m₃ H₃ (fun z m₄ H₄ => SA C A fx x n z m₄ H₄ (Q .next) X) X) X) X) X) : EX C A fx (.AugAssign (.Attribute o n tp) op e pos) m H Q X := by
  show AW C A fx (exec _ _) m H _ X
  rw [arm_exec_AugAssign_2]
  refine aw_bind (aw_standAt (aw_bind (aw_mono h (fun x m₁ H₁ h₁ => ?_) fun _ _ _ x => x)))
  refine aw_bind (aw_holding (aw_bind (aw_standAt (aw_bind (aw_mono (h₁ x rfl) (fun v m₂ H₂ h₂ => ?_) fun _ _ _ x => x)))))
  refine aw_bind (aw_holding (aw_mono h₂ (fun y m₃ H₃ h₃ => ?_) fun _ _ _ x => x))
  refine aw_bind (aw_standAt (aw_operate (aw_mono (h₃ v y rfl rfl) (fun z m₄ H₄ h₄ => ?_) fun _ _ _ x => x)))
  exact aw_bind (aw_standAt (aw_bind (aw_holding (aw_mono (h₄ x z rfl rfl) (fun _ _ _ h₅ => aw_bind (aw_release (aw_pure h₅))) fun _ _ _ x => x))))

/-! ### a row of items, handed out one by one by an object set aside -/
structure Itr (C : Cfg) (A : Around) (I : Addr) (vals : List Value) (P : AH → Prop) (Pos : Nat → Heap → Prop) : Prop where
  keep : ∀ i h h', Pos i h → (∀ o, h.get? I = some o → h'.get? I = some o) → Pos i h'
  there : ∀ i h, Pos i h → ∃ o, h.get? I = some o
  item : ∀ i v fx m H s (Q : Option Value → Shared → Prop) (E : Value → Shared → Prop), vals[i]? = some v → P H → St C A fx m H s → I ∉ H.keys → Pos i s.heap →
    (∀ r h' tk, er r = v → Pos (i + 1) h' → (∀ b o, b ≠ I → s.heap.get? b = some o → h'.get? b = some o) → Q (some r) { s with heap := h', toks := tk }) → wpAny (model C.prog C.w) A (pyNext (.ref I)) Q E s
  done : ∀ fx m H s (Q : Option Value → Shared → Prop) (E : Value → Shared → Prop), P H → St C A fx m H s → I ∉ H.keys → Pos vals.length s.heap →
    (∀ h' tk, (∀ b o, b ≠ I → s.heap.get? b = some o → h'.get? b = some o) → Q none { s with heap := h', toks := tk }) → wpAny (model C.prog C.w) A (pyNext (.ref I)) Q E s
  self : ∀ i (s : Shared) (Q : Value → Shared → Prop) (E : Value → Shared → Prop), Pos i s.heap → Q (.ref I) s → wpAny (model C.prog C.w) A (pyIter (.ref I)) Q E s
noncomputable def ITR (C : Cfg) (A : Around) (fx : Fx) (x : Value) (m : Lo) (H : AH) (vals : List Value) (P : AH → Prop) : Prop :=
  ∀ a, er a = x → ∀ s (Q : Value → Shared → Prop) (E : Value → Shared → Prop), St C A fx m H s →
    (∀ I h' tk Pos, Itr C A I vals P Pos → s.heap.get? I = none → sysModules < I → Pos 0 h' → (∀ b o, s.heap.get? b = some o → h'.get? b = some o) → Q (.ref I) { s with heap := h', toks := tk }) → wpAny (model C.prog C.w) A (pyIter a) Q E s

noncomputable def loopPost (Q : Flow → Lo → AH → Prop) (J : Lo → AH → Prop) : Flow → Lo → AH → Prop := fun f m H => match f with
  | .next | .cont => J m H
  | .brk => Q .next m H
  | .ret v => Q (.ret v) m H

theorem ex_for {t iter : PySem.Expr} {body orelse : List Stmt} {pos : Pos} (hA : A.handled = none)
    (h : EV C A fx iter m H (fun x m₁ H₁ => ∃ vals P, ITR C A fx x m₁ H₁ vals P ∧ ∃ J : Nat → Lo → AH → Prop, J 0 m₁ H₁ ∧ (∀ i m H, J i m H → P H) ∧
      (∀ i v m H, vals[i]? = some v → J i m H → ASG C A fx t v m H (fun m₂ H₂ => EXS C A fx body m₂ H₂ (loopPost Q (J (i + 1))) noX) noX) ∧
      (∀ m H, J vals.length m H → EXS C A fx orelse m H Q noX)) X)
    (hf : ∀ x, foldedSetIterable iter fx.env x = pure x := by intro _; rfl) (ht : ∀ I v, letOwnedTupleGo t I v = pure () := by intro _ _; rfl) : EX C A fx (.For t iter body orelse pos) m H Q X := by
  show AW C A fx (exec _ _) m H _ X
  rw [arm_exec_For]
  refine aw_bind (aw_standAt (aw_bind (aw_mono h (fun x m₁ H₁ h₁ => ?_) fun _ _ _ x => x)))
  rw [hf]
  refine aw_bind (aw_pure (aw_bind (aw_standAt ?_)))
  intro s₁ S₁
  obtain ⟨vals, P, hI, J, j0, jP, turn, done⟩ := h₁
  refine wpAny_bind (wpAny_holding (hI x rfl s₁ _ _ S₁ fun I h₂ tk Pos it hnew hsm p0 hk => ?_))
  obtain ⟨S₂, E₂⟩ := S₁.keeps (s' := { s₁ with heap := h₂, toks := tk }) hk
  have FI := Off.of S₁ hnew
  have hIH₁ : I ∉ H₁.keys := none_notKey S₁ hnew
  have hnew' : ∀ o, s₁.heap.get? I = some o → I ∈ H₁.keys ∨ I ∈ fx.W := fun o e => by rw [hnew] at e; cases e
  refine wpAny_runOwn (codeAny_forLoop_any (fun n s => ∃ i m H, n = vals.length + 1 - i ∧ i ≤ vals.length ∧ St C A fx m H s ∧ Ext A fx H₁ s₁ H s ∧ I ∉ H.keys ∧ Pos i s.heap ∧ J i m H) ?_ (vals.length + 1)
    ⟨0, m₁, H₁, rfl, Nat.zero_le _, S₂, E₂, hIH₁, p0, j0⟩)
  rintro n s ⟨i, m, H, rfl, hi, S, E, hIH, pi, ji⟩
  have hmark : (A.mark none) = A := by obtain ⟨_, _, _, _, _⟩ := A; rfl
  cases q : vals[i]? with
  | none =>
    have hi' : i = vals.length := Nat.le_antisymm hi (List.getElem?_eq_none_iff.mp q)
    subst hi'
    refine it.done fx m H s _ _ (jP _ _ _ ji) S hIH pi fun h' tk' hk' => ?_
    obtain ⟨S', E'⟩ := S.aside FI hnew' E hIH (s' := { s with heap := h', toks := tk' }) hk'
    refine wpAny_mono (done m H ji _ S') (fun f s₃ h₃ => ?_) fun _ _ h₃ => ?_
    · obtain ⟨m₃, H₃, S₃, E₃, q₃⟩ := h₃
      exact ⟨m₃, H₃, S₃, E'.trans E₃, q₃⟩
    · obtain ⟨_, _, _, _, z⟩ := h₃; exact z.elim
  | some v =>
    have hlt : i < vals.length := (List.getElem?_eq_some_iff.mp q).1
    refine it.item i v fx m H s _ _ q (jP _ _ _ ji) S hIH pi fun r h' tk' hr p1 hk' => ?_
    obtain ⟨S', E'⟩ := S.aside FI hnew' E hIH (s' := { s with heap := h', toks := tk' }) hk'
    refine wpAny_mono (?_ : wpAny _ _ (letOwnedTupleGo t (.ref I) r) (fun _ s₂ => s₂ = { s with heap := h', toks := tk' }) (fun _ _ => False) _) (fun _ s₂ e => ?_) fun _ _ z => z.elim
    · rw [ht]; exact wpAny_pure rfl
    subst e
    have stay : ∀ {m₄ H₄ s₄}, St C A fx m₄ H₄ s₄ → Ext A fx H { s with heap := h', toks := tk' } H₄ s₄ → I ∉ H₄.keys ∧ Pos (i + 1) s₄.heap := fun S₄ E₄ => by
      obtain ⟨o, ho⟩ := it.there _ _ p1
      obtain ⟨e1, e2⟩ := E₄.kept S' ho hIH FI.W FI.frame
      exact ⟨e2, it.keep _ _ _ p1 fun o' ho' => by rw [ho] at ho'; cases ho'; exact e1⟩
    refine wpAny_mono (turn i v m H q ji r hr _ S') (fun _ s₃ h₃ => ?_) fun _ _ h₃ => ?_
    · obtain ⟨m₃, H₃, S₃, E₃, q₃⟩ := h₃
      refine wpAny_mono (q₃ s₃ S₃) (fun f s₄ h₄ => ?_) fun _ _ h₄ => ?_
      · obtain ⟨m₄, H₄, S₄, E₄, q₄⟩ := h₄
        obtain ⟨k1, k2⟩ := stay S₄ (E₃.trans E₄)
        have EE := E'.trans (E₃.trans E₄)
        cases f with
        | next => exact ⟨_, lt_down (Nat.lt_succ_of_lt hlt), i + 1, m₄, H₄, rfl, hlt, S₄, EE, k1, k2, q₄⟩
        | cont => exact ⟨_, lt_down (Nat.lt_succ_of_lt hlt), i + 1, m₄, H₄, rfl, hlt, S₄, EE, k1, k2, q₄⟩
        | brk => exact ⟨m₄, H₄, S₄, EE, q₄⟩
        | ret v => exact ⟨m₄, H₄, S₄, EE, q₄⟩
      · obtain ⟨_, _, _, _, z⟩ := h₄; exact z.elim
    · obtain ⟨_, _, _, _, z⟩ := h₃; exact z.elim

theorem ex_while {t : PySem.Expr} {body orelse : List Stmt} {pos : Pos} (I : Nat → Lo → AH → Prop) (n : Nat) (h0 : I n m H)
    (turn : ∀ n m H, I n m H → IT C A fx t m H (fun b m₁ H₁ => if b = true then EXS C A fx body m₁ H₁ (loopPost Q (fun m₂ H₂ => ∃ k, k < n ∧ I k m₂ H₂)) noX else EXS C A fx orelse m₁ H₁ Q noX) noX) : EX C A fx (.While t body orelse pos) m H Q X := by
  show AW C A fx (exec _ _) m H _ X
  rw [arm_exec_While]
  refine aw_bind (aw_standAt ?_)
  intro s₁ S₁
  refine wpAny_runOwn (codeAny_whileLoop (fun n s => ∃ m' H', St C A fx m' H' s ∧ Ext A fx H s₁ H' s ∧ I n m' H') ?_ n ⟨m, H, S₁, Ext.refl' S₁, h0⟩)
  rintro n s ⟨m', H', S, E, hI⟩
  refine wpAny_mono (turn n m' H' hI s S) (fun b s₂ h₂ => ?_) fun _ _ h₂ => ?_
  · obtain ⟨m₂, H₂, S₂, E₂, q₂⟩ := h₂
    cases b with
    | true =>
      rw [if_pos rfl] at q₂ ⊢
      refine wpAny_mono (q₂ s₂ S₂) (fun f s₃ h₃ => ?_) fun _ _ h₃ => ?_
      · obtain ⟨m₃, H₃, S₃, E₃, q₃⟩ := h₃
        have EE := E.trans (E₂.trans E₃)
        cases f with
        | next => obtain ⟨k, hk, q⟩ := q₃; exact ⟨k, hk, m₃, H₃, S₃, EE, q⟩
        | cont => obtain ⟨k, hk, q⟩ := q₃; exact ⟨k, hk, m₃, H₃, S₃, EE, q⟩
        | brk => exact ⟨m₃, H₃, S₃, EE, q₃⟩
        | ret v => exact ⟨m₃, H₃, S₃, EE, q₃⟩
      · obtain ⟨_, _, _, _, z⟩ := h₃; exact z.elim
    | false =>
      rw [if_neg (by decide)] at q₂ ⊢
      refine wpAny_mono (q₂ s₂ S₂) (fun f s₃ h₃ => ?_) fun _ _ h₃ => ?_
      · obtain ⟨m₃, H₃, S₃, E₃, q₃⟩ := h₃
        exact ⟨m₃, H₃, S₃, E.trans (E₂.trans E₃), q₃⟩
      · obtain ⟨_, _, _, _, z⟩ := h₃; exact z.elim
  · obtain ⟨_, _, _, _, z⟩ := h₂; exact z.elim
end
end Mine

namespace Mine
open PySem PySem.W PyProof.Rows
open Sem (wp)

section
variable {α : Type} {C : Cfg} {A A' : Around} {fx fx' : Fx} {m m' m₁ : Lo} {H H' H₁ : AH} {X : Value → Lo → AH → Prop} {K : Frag} {s s' s₁ : Shared}

/-! ### rows of items -/
theorem itr_list {l : Addr} {xs : List Value} (hA : A.handled = none) (hl : (l, AO.list xs) ∈ H) : ITR C A fx (.ref l) m H xs (fun H => (l, AO.list xs) ∈ H) := fun a ha s Q E S q => by
  obtain rfl := er_eq_ref ha
  obtain ⟨vs, h1, h2⟩ := S.isList hl
  refine wpAny_pyIter_list h1 (q s.heap.objs.size _ s.toks (fun i h => h.IsListIter s.heap.objs.size l i) ⟨?_, ?_, ?_, ?_, ?_⟩ (none_of_le (Nat.le_refl _)) (S.low_lt S.base) ⟨_, Heap.get?_push_size _ rfl, rfl, rfl⟩ fun b o e => Heap.get?_push_of_some _ e)
  · rintro i h h' ⟨o, ho, r⟩ k; exact ⟨o, k o ho, r⟩
  · rintro i h ⟨o, ho, _⟩; exact ⟨o, ho⟩
  · intro i v fx m H s Q E hv hP S hI hp q
    obtain ⟨vs, h1, h2⟩ := S.isList hP
    obtain ⟨r, e1, e2⟩ := er_get h2 hv
    exact wpAny_pyNext_list_item hp h1 e1 fun h' hit hs => q r h' s.toks e2 hit fun b o hb e => (hs.2 b hb).trans e
  · intro fx m H s Q E hP S hI hp q
    obtain ⟨vs, h1, h2⟩ := S.isList hP
    refine wpAny_pyNext_list_end hA hp h1 (Array.getElem?_eq_none_iff.mpr (by have := size_of_er h2; omega)) fun h' hs => q h' s.toks fun b o hb e => hs b o hb e
  · intro i s Q E hp q; exact wpAny_pyIter_listiter hp q
theorem itr_tup {l : Addr} {xs : List Value} (hA : A.handled = none) (hl : (l, AO.tup xs) ∈ H) : ITR C A fx (.ref l) m H xs (fun H => (l, AO.tup xs) ∈ H) := fun a ha s Q E S q => by
  obtain rfl := er_eq_ref ha
  obtain ⟨vs, ⟨o, ho, hc, n, hd⟩, h2⟩ := S.isTup hl
  refine wpAny_pyIter_tuple ⟨o, ho, hc, n, hd⟩ (q s.heap.objs.size _ s.toks (fun i h => h.IsTupleIter s.heap.objs.size l i) ⟨?_, ?_, ?_, ?_, ?_⟩ (none_of_le (Nat.le_refl _)) (S.low_lt S.base) ⟨_, Heap.get?_push_size _ rfl, rfl, rfl⟩ fun b o e => Heap.get?_push_of_some _ e)
  · rintro i h h' ⟨o, ho, r⟩ k; exact ⟨o, k o ho, r⟩
  · rintro i h ⟨o, ho, _⟩; exact ⟨o, ho⟩
  · intro i v fx m H s Q E hv hP S hI hp q
    obtain ⟨vs, ⟨o, ho, hc, n, hd⟩, h2⟩ := S.isTup hP
    obtain ⟨r, e1, e2⟩ := er_get h2 hv
    exact wpAny_pyNext_tuple_item hp ⟨o, ho, hc, n, hd⟩ e1 fun h' hit hs => q r h' s.toks e2 hit fun b o hb e => (hs.2 b hb).trans e
  · intro fx m H s Q E hP S hI hp q
    obtain ⟨vs, ⟨o, ho, hc, n, hd⟩, h2⟩ := S.isTup hP
    refine wpAny_pyNext_tuple_end hA hp ⟨o, ho, hc, n, hd⟩ (Array.getElem?_eq_none_iff.mpr (by have := size_of_er h2; omega)) fun h' hs => q h' s.toks fun b o hb e => hs b o hb e
  · intro i s Q E hp q; exact wpAny_pyIter_tupleiter hp q
theorem er_key {k : Int} {key : Value} (h : (intKind C.prog C.w).is k key = true) : er key = vI k := by
  obtain ⟨t, rfl⟩ := Value.isInt_shape h; rfl
theorem raw_get {raw : List (Int × Value)} {kvs : List (Int × Value)} {i : Nat} {k : Int} {v : Value} (h : raw.map (fun kv => (kv.1, er kv.2)) = kvs) (hx : kvs[i]? = some (k, v)) : ∃ r, raw[i]? = some (k, r) ∧ er r = v := by
  subst h
  rw [List.getElem?_map] at hx
  obtain ⟨⟨k', r⟩, h1, h2⟩ := Option.map_eq_some_iff.mp hx
  cases h2
  exact ⟨r, h1, rfl⟩
theorem raw_len {raw : List (Int × Value)} {kvs : List (Int × Value)} (h : raw.map (fun kv => (kv.1, er kv.2)) = kvs) : raw.length = kvs.length := by rw [← h, List.length_map]
theorem itr_keys {d : Addr} {kvs : List (Int × Value)} {ep : Nat} (hA : A.handled = none) (hd : (d, AO.dict kvs ep) ∈ H) : ITR C A fx (.ref d) m H (kvs.map fun kv => vI kv.1) (fun H => (d, AO.dict kvs ep) ∈ H) := fun a ha s Q E S q => by
  obtain rfl := er_eq_ref ha
  obtain ⟨raw, h1, h2⟩ := S.dictAt hd
  refine wpAny_pyIter_dict (S.notMods (mem_keys hd)) h1 (q s.heap.objs.size _ s.toks (fun i h => h.IsKeyIter s.heap.objs.size d i kvs.length ep) ⟨?_, ?_, ?_, ?_, ?_⟩ (none_of_le (Nat.le_refl _)) (S.low_lt S.base) ⟨_, Heap.get?_push_size _ rfl, rfl, by rw [raw_len h2]; rfl⟩ fun b o e => Heap.get?_push_of_some _ e)
  · rintro i h h' ⟨o, ho, r⟩ k; exact ⟨o, k o ho, r⟩
  · rintro i h ⟨o, ho, _⟩; exact ⟨o, ho⟩
  · intro i v fx m H s Q E hv hP S hI hp q
    obtain ⟨raw, h1, h2⟩ := S.dictAt hP
    rw [List.getElem?_map] at hv
    obtain ⟨⟨k, v'⟩, e1, rfl⟩ := Option.map_eq_some_iff.mp hv
    obtain ⟨r, e2, e3⟩ := raw_get h2 e1
    rw [← raw_len h2] at hp
    exact wpAny_pyNext_dict_item hp h1 e2 fun key h' hk hit hs => q key h' s.toks (er_key hk) (raw_len h2 ▸ hit) fun b o hb e => (hs.2 b hb).trans e
  · intro fx m H s Q E hP S hI hp q
    obtain ⟨raw, h1, h2⟩ := S.dictAt hP
    rw [List.length_map, ← raw_len h2] at hp
    refine wpAny_pyNext_dict_end hA hp h1 (List.getElem?_eq_none_iff.mpr (Nat.le_refl _)) fun h' hs => q h' s.toks fun b o hb e => hs b o hb e
  · intro i s Q E hp q; exact wpAny_pyIter_keyiter hp q
theorem itr_vals {d v : Addr} {kvs : List (Int × Value)} {ep : Nat} (hA : A.handled = none) (hv : (v, AO.flds (.type "dict_values") [.ref d]) ∈ H) (hd : (d, AO.dict kvs ep) ∈ H) : ITR C A fx (.ref v) m H (kvs.map (·.2)) (fun H => (d, AO.dict kvs ep) ∈ H) := fun a ha s Q E S q => by
  obtain rfl := er_eq_ref ha
  obtain ⟨raw, h1, h2⟩ := S.dictAt hd
  obtain ⟨o, ho, c1, c2, ws, c3, c4⟩ := S.get hv
  have hview : s.heap.IsValuesView v d := by
    obtain ⟨l, rfl⟩ : ∃ l, ws = List.toArray l := ⟨ws.toList, rfl⟩
    rcases l with _ | ⟨a, _ | ⟨b, l⟩⟩ <;> simp at c4
    obtain rfl := er_eq_ref c4
    exact ⟨o, ho, c1, c3⟩
  refine wpAny_pyIter_values hview h1 (q s.heap.objs.size _ s.toks (fun i h => h.IsValIter s.heap.objs.size d i kvs.length ep) ⟨?_, ?_, ?_, ?_, ?_⟩ (none_of_le (Nat.le_refl _)) (S.low_lt S.base) ⟨_, Heap.get?_push_size _ rfl, rfl, by rw [raw_len h2]; rfl⟩ fun b o e => Heap.get?_push_of_some _ e)
  · rintro i h h' ⟨o, ho, r⟩ k; exact ⟨o, k o ho, r⟩
  · rintro i h ⟨o, ho, _⟩; exact ⟨o, ho⟩
  · intro i v fx m H s Q E hv hP S hI hp q
    obtain ⟨raw, h1, h2⟩ := S.dictAt hP
    rw [List.getElem?_map] at hv
    obtain ⟨⟨k, v'⟩, e1, rfl⟩ := Option.map_eq_some_iff.mp hv
    obtain ⟨r, e2, e3⟩ := raw_get h2 e1
    rw [← raw_len h2] at hp
    exact wpAny_pyNext_values_item hp h1 e2 fun h' hit hs => q r h' s.toks e3 (raw_len h2 ▸ hit) fun b o hb e => (hs.2 b hb).trans e
  · intro fx m H s Q E hP S hI hp q
    obtain ⟨raw, h1, h2⟩ := S.dictAt hP
    rw [List.length_map, ← raw_len h2] at hp
    refine wpAny_pyNext_values_end hA hp h1 (List.getElem?_eq_none_iff.mpr (Nat.le_refl _)) fun h' hs => q h' s.toks fun b o hb e => hs b o hb e
  · intro i s Q E hp q; exact wpAny_pyIter_valiter hp q
noncomputable def rngV (n : Nat) : List Value := (List.range n).map fun (j : Nat) => vI (j : Int)
theorem rng_small {n : Nat} (hn : n < 2 ^ 31) : Builtin.Range.small 0 n 1 = true ∧ Builtin.Range.rangeSize 0 n 1 = n := by
  have h2 : Builtin.Range.rangeSize 0 n 1 = n := by
    unfold Builtin.Range.rangeSize
    simp
    try omega
  refine ⟨?_, h2⟩
  unfold Builtin.Range.small Builtin.Range.rangeFitsLong
  rw [h2]
  simp
  omega
theorem itr_range {r : Addr} {n : Nat} (hA : A.handled = none) (hn : n < 2 ^ 31) (hr : (r, AO.flds (.type "range") [vI 0, vI n, vI 1]) ∈ H) : ITR C A fx (.ref r) m H (rngV n) (fun _ => True) := fun a ha s Q E S q => by
  obtain rfl := er_eq_ref ha
  obtain ⟨o, ho, c1, ⟨c2, c2'⟩, ws, c3, c4⟩ := S.get hr
  obtain ⟨hs, hz⟩ := rng_small hn
  have hview : ∃ t u v, IsRange s.heap r 0 n 1 t u v := by
    obtain ⟨l, rfl⟩ : ∃ l, ws = List.toArray l := ⟨ws.toList, rfl⟩
    rcases l with _ | ⟨a, _ | ⟨b, _ | ⟨c, _ | ⟨d, l⟩⟩⟩⟩ <;> simp at c4
    obtain ⟨t, rfl⟩ := er_eq_int c4.1
    obtain ⟨u, rfl⟩ := er_eq_int c4.2.1
    obtain ⟨v, rfl⟩ := er_eq_int c4.2.2
    refine ⟨t, u, v, ?_⟩
    obtain ⟨oc, od, odd, osl⟩ := o
    dsimp only at c1 c2 c2' c3
    subst c1 c2 c2' c3
    exact ho
  obtain ⟨t, u, v, hr'⟩ := hview
  refine wpAny_pyIter_range hr' hs (q s.heap.objs.size _ s.toks (fun i h => IsRangeIter h s.heap.objs.size i (n - i) 1) ⟨?_, ?_, ?_, ?_, ?_⟩ (none_of_le (Nat.le_refl _)) (S.low_lt S.base) ?_ fun b o e => Heap.get?_push_of_some _ e)
  · rintro i h h' ho k; exact k _ ho
  · rintro i h ho; exact ⟨_, ho⟩
  · intro i v fx m H s Q E hv hP S hI hp q
    unfold rngV at hv
    rw [List.getElem?_map] at hv
    obtain ⟨j, e1, rfl⟩ := Option.map_eq_some_iff.mp hv
    obtain ⟨h1, h2⟩ := List.getElem?_eq_some_iff.mp e1
    rw [List.length_range] at h1
    rw [List.getElem_range] at h2
    subst h2
    refine wpAny_pyNext_range_item hp (by omega) fun h' hit hs => q _ h' _ rfl ?_ fun b o hb e => (hs.2 b hb).trans e
    rw [Int.natCast_add, show ((n : Int) - ((i : Int) + (1 : Nat))) = n - i - 1 from by omega]; exact hit
  · intro fx m H s Q E hP S hI hp q
    have : (rngV n).length = n := by unfold rngV; simp
    rw [this] at hp
    exact wpAny_pyNext_range_end hA hp (by omega) fun h' hs => q h' s.toks fun b o hb e => hs b o hb e
  · intro i s Q E hp q; exact wpAny_pyIter_rangeiter hp q
  · rw [hz]
    have := Heap.get?_push_size s.heap (o := { cls := .type "range_iterator", data := .fields #[rawInt 0, rawInt n, rawInt 1] }) rfl
    rw [show ((n : Int) - ((0 : Nat) : Int)) = n from by omega]
    exact this
end
end Mine

namespace Mine
open PySem PySem.W PyProof.Rows
open Sem (wp)

section
variable {α : Type} {C : Cfg} {A A' : Around} {fx fx' : Fx} {m m' m₁ : Lo} {H H' H₁ : AH} {X : Value → Lo → AH → Prop} {K : Frag} {s s' s₁ : Shared}

/-! ### the cells of a comprehension -/
noncomputable def closL (cells : List (PySem.Str × Addr)) : List (PySem.Str × NameKind) → List (PySem.Str × Addr) → List (PySem.Str × Addr)
  | [], acc => acc
  | (n, k) :: r, acc => closL cells r (if k == .free then (n, (cells.lookup n).getD 0) :: acc else acc)
theorem closL_mem {cells : List (PySem.Str × Addr)} : ∀ {names : List (PySem.Str × NameKind)} {acc : List (PySem.Str × Addr)} {x : PySem.Str} {c : Addr}, (x, c) ∈ closL cells names acc → (x, c) ∈ acc ∨ ((x, NameKind.free) ∈ names ∧ c = (cells.lookup x).getD 0)
  | [], _, _, _, h => .inl h
  | (n, k) :: r, acc, x, c, h => by
    unfold closL at h
    rcases closL_mem h with h | ⟨h1, h2⟩
    · split at h
      · rename_i hk
        rcases List.mem_cons.mp h with e | h
        · cases e; exact .inr ⟨by rw [beq_iff_eq.mp hk]; exact List.mem_cons_self, rfl⟩
        · exact .inl h
      · exact .inl h
    · exact .inr ⟨List.mem_cons_of_mem _ h1, h2⟩
theorem closL_some {cells : List (PySem.Str × Addr)} : ∀ {names : List (PySem.Str × NameKind)} {acc : List (PySem.Str × Addr)} {x : PySem.Str}, (acc.lookup x).isSome = true ∨ (x, NameKind.free) ∈ names → ((closL cells names acc).lookup x).isSome = true
  | [], _, _, h => by
    rcases h with h | h
    · exact h
    · cases h
  | (n, k) :: r, acc, x, h => by
    unfold closL
    refine closL_some ?_
    by_cases hxy : x = n
    · subst hxy
      by_cases hk : (k == NameKind.free) = true
      · rw [if_pos hk]; left; simp
      · rw [if_neg hk]
        rcases h with h | h
        · exact .inl h
        · rcases List.mem_cons.mp h with e | h
          · cases e; exact absurd rfl hk
          · exact .inr h
    · have hb : (x == n) = false := beq_eq_false_iff_ne.mpr hxy
      rcases h with h | h
      · left
        split
        · rw [List.lookup_cons, hb]; exact h
        · exact h
      · rcases List.mem_cons.mp h with e | h
        · cases e; exact absurd rfl hxy
        · exact .inr h
theorem closureFor_eq {env : Env} {scope : Scope} (h : ∀ x, (x, NameKind.free) ∈ scope.names → ∃ c, env.cells.lookup x = some c) : closureFor scope env = pure (closL env.cells scope.names []) := by
  have key : ∀ (names : List (PySem.Str × NameKind)) (acc : List (PySem.Str × Addr)), (∀ x, (x, NameKind.free) ∈ names → ∃ c, env.cells.lookup x = some c) →
      (forIn names acc fun (x : PySem.Str × NameKind) (cs : List (PySem.Str × Addr)) => if (x.2 == NameKind.free) = true then (do let c ← cellOf env x.1; pure (ForInStep.yield ((x.1, c) :: cs))) else pure (ForInStep.yield cs)) = (pure (closL env.cells names acc) : Sem _) := by
    intro names
    induction names with
    | nil => intro acc _; rw [List.forIn_nil]; rfl
    | cons p r ih =>
      intro acc hp
      obtain ⟨n, k⟩ := p
      rw [List.forIn_cons]
      unfold closL
      by_cases hk : (k == NameKind.free) = true
      · obtain ⟨c, hc⟩ := hp n (by rw [beq_iff_eq.mp hk]; exact List.mem_cons_self)
        have hcell : cellOf env n = pure c := by unfold cellOf; rw [hc]
        simp only [hk, if_true, hcell, hc, Option.getD_some]
        exact ih _ fun x hx => hp x (List.mem_cons_of_mem _ hx)
      · simp only [hk, Bool.false_eq_true, if_false]
        show (forIn r acc _ : Sem _) = _
        exact ih _ fun x hx => hp x (List.mem_cons_of_mem _ hx)
  have := key scope.names [] h
  unfold closureFor
  exact congrArg (fun t => t >>= fun cs => pure cs) this
theorem cellsFrom_inj : ∀ {names : List (PySem.Str × NameKind)} {n : Nat} {acc : List (PySem.Str × Addr)}, (∀ x c, (x, c) ∈ acc → c < n) → (∀ x y c, (x, c) ∈ acc → (y, c) ∈ acc → x = y) → ∀ x y c, (x, c) ∈ cellsFrom n names acc → (y, c) ∈ cellsFrom n names acc → x = y
  | [], _, _, _, h, x, y, c, h1, h2 => h x y c h1 h2
  | (z, k) :: r, n, acc, hlt, h, x, y, c, h1, h2 => by
    unfold cellsFrom at h1 h2
    split at h1
    · rename_i hk
      rw [if_pos hk] at h2
      refine cellsFrom_inj (fun a b hm => ?_) (fun a b d e1 e2 => ?_) x y c h1 h2
      · rcases List.mem_cons.mp hm with e | hm
        · cases e; exact Nat.lt_succ_self _
        · exact Nat.lt_succ_of_lt (hlt a b hm)
      · rcases List.mem_cons.mp e1 with e | e1 <;> rcases List.mem_cons.mp e2 with e' | e2
        · cases e; cases e'; rfl
        · cases e; exact absurd (hlt b n e2) (Nat.lt_irrefl _)
        · cases e'; exact absurd (hlt a n e1) (Nat.lt_irrefl _)
        · exact h a b d e1 e2
    · rename_i hk
      rw [if_neg hk] at h2
      exact cellsFrom_inj hlt h x y c h1 h2
theorem pushCells_cell : ∀ {names : List (PySem.Str × NameKind)} {h : Heap} {acc : List (PySem.Str × Addr)} {x : PySem.Str} {c : Addr}, (x, c) ∈ cellsFrom h.objs.size names acc → (x, c) ∈ acc ∨ (h.objs.size ≤ c ∧ (pushCells h names).IsCell c none)
  | [], _, _, _, _, h => .inl h
  | (y, k) :: r, h, acc, x, c, hm => by
    unfold cellsFrom at hm
    unfold pushCells
    split at hm
    · rename_i hk
      rw [if_pos hk]
      rw [← Heap.size_push h { cls := .type "cell", data := .cell none }] at hm
      rcases pushCells_cell hm with hm | ⟨h1, h2⟩
      · rcases List.mem_cons.mp hm with e | hm
        · cases e
          refine .inr ⟨Nat.le_refl _, _, pushCells_keeps _ _ _ _ (Heap.get?_push_size _ rfl), rfl⟩
        · exact .inl hm
      · rw [Heap.size_push] at h1
        exact .inr ⟨Nat.le_of_succ_le h1, h2⟩
    · rename_i hk
      rw [if_neg hk]
      exact pushCells_cell hm

noncomputable def relS (scope outer : Scope) : Scope := { scope with names := scope.names.map fun (n, k) => if (k == .free && outer.kind == .function && outer.names.lookup n == some .cell) then (n, .cell) else (n, k) }
structure CompFx (fx : Fx) (scope : Scope) (fx' : Fx) : Prop where
  sc : fx'.env.scope = relS scope fx.env.scope
  own : ∀ x, fx'.env.kindOf x = some .local → Own fx' x
  cell : ∀ x, (x, NameKind.cell) ∈ scope.names → ∀ c, fx'.env.cells.lookup x = some c → (x, NameKind.free) ∉ scope.names → c ∈ fx'.W
  frame : fx'.env.frame = fx.env.frame
  code : fx'.env.code = fx.env.code
theorem CompFx.kindOf {scope : Scope} (h : CompFx fx scope fx') (x : PySem.Str) : fx'.env.kindOf x = (relS scope fx.env.scope).names.lookup x := by unfold Env.kindOf; rw [h.sc]

theorem St.comp {scope : Scope} {cenv : Env} {mf : Lo} (S : St C A fx m H s) (hk : scope.kind = .function) (hfree : ∀ x, (x, NameKind.free) ∈ scope.names → fx.env.kindOf x = some .cell)
    (hcell : ∀ x, (relS scope fx.env.scope).names.lookup x = some .cell → (x, NameKind.free) ∈ scope.names ∨ (x, NameKind.cell) ∈ scope.names)
    (hmf : ∀ x v, (x, v) ∈ mf → (x, v) ∈ m ∧ (x, NameKind.free) ∈ scope.names ∧ (x, NameKind.cell) ∉ scope.names ∧ (relS scope fx.env.scope).names.lookup x = some .cell)
    (hc : cenv = { scope := relabel scope fx.env, locals := s.heap.objs.size, globals := fx.env.globals, cells := cellsFrom (s.heap.objs.size + 1) scope.names (closL fx.env.cells scope.names []), qual := fx.env.qual, func := none, code := fx.env.code, frame := fx.env.frame, builtins := fx.env.builtins })
    (hs : s' = { s with heap := pushCells (s.heap.push { cls := .type "dict", data := .dict #[] }) scope.names }) :
    let fx' : Fx := ⟨cenv, s.heap.objs.size :: (cenv.cells.filterMap fun p => cenv.cells.lookup p.1).filter fun c => decide (s.heap.objs.size ≤ c)⟩
    St C A fx' mf H s' ∧ CompFx fx scope fx' ∧ (∀ b ∈ fx'.W, s.heap.objs.size ≤ b) ∧ ∀ x c, fx'.env.cells.lookup x = some c → fx.env.cells.lookup x = some c ∨ s.heap.objs.size ≤ c := by
  intro fx'
  have keep : ∀ b o, s.heap.get? b = some o → s'.heap.get? b = some o := fun b o e => by rw [hs]; exact pushCells_keeps _ _ _ _ (Heap.get?_push_of_some _ e)
  have hsz : (s.heap.push { cls := .type "dict", data := .dict #[] }).objs.size = s.heap.objs.size + 1 := Heap.size_push ..
  have hL : cenv.locals = s.heap.objs.size := by rw [hc]
  have hcs : cenv.cells = cellsFrom (s.heap.objs.size + 1) scope.names (closL fx.env.cells scope.names []) := by rw [hc]
  have hkd : ∀ x, cenv.kindOf x = (relS scope fx.env.scope).names.lookup x := fun x => by rw [hc]; rfl
  have freeC : ∀ x, (x, NameKind.free) ∈ scope.names → ∃ c, fx.env.cells.lookup x = some c := fun x hx => S.cellW x (hfree x hx)
  have clos : ∀ x c, (x, c) ∈ closL fx.env.cells scope.names [] → fx.env.cells.lookup x = some c := fun x c h => by
    rcases closL_mem h with h | ⟨h1, h2⟩
    · cases h
    · obtain ⟨c', hc'⟩ := freeC x h1
      rw [hc'] at h2 ⊢; rw [h2]; rfl
  have lt : ∀ x c, fx.env.cells.lookup x = some c → c < s.heap.objs.size := fun x c h => let ⟨⟨r, o, ho, _⟩, _⟩ := S.cellA x c h; Heap.lt_size ho
  have two : ∀ x c, cenv.cells.lookup x = some c → fx.env.cells.lookup x = some c ∨ (s.heap.objs.size + 1 ≤ c ∧ s'.heap.IsCell c none) := fun x c h => by
    have h := mem_of_lookup h
    rw [hcs, ← hsz] at h
    rcases pushCells_cell h with h | ⟨h1, h2⟩
    · exact .inl (clos x c h)
    · refine .inr ⟨hsz ▸ h1, by rw [hs]; exact h2⟩
  have hW : ∀ b ∈ fx'.W, s.heap.objs.size ≤ b := fun b hb => by
    rcases List.mem_cons.mp hb with rfl | hb
    · exact Nat.le_refl _
    · exact of_decide_eq_true (List.mem_filter.mp hb).2
  have apart : ∀ b ∈ fx'.W, b ∉ H.keys := fun b hb hm => Nat.lt_irrefl _ (Nat.lt_of_lt_of_le (S.key_lt hm) (hW b hb))
  have none' : ∀ b, s.heap.objs.size ≤ b → C.h₀.get? b = none := fun b hb => S.base_none (none_of_le hb)
  have hns : s'.heap.Ns s.heap.objs.size (fun _ => none) := by
    rw [hs]
    exact (Heap.Ns.new s.heap (.type "dict")).keeps (pushCells_keeps _ _)
  have inW : ∀ x c, cenv.cells.lookup x = some c → s.heap.objs.size ≤ c → c ∈ fx'.W := fun x c e hle =>
    List.mem_cons_of_mem _ (List.mem_filter.mpr ⟨List.mem_filterMap.mpr ⟨_, mem_of_lookup e, e⟩, decide_eq_true hle⟩)
  refine ⟨⟨fun b o e => keep b o (S.base b o e), fun p hp => let ⟨o, h1, h2⟩ := S.cells p hp; ⟨o, keep _ _ h1, h2⟩, S.low, fun b hb => ?_, S.nodup, apart, (congrArg (fun e : Env => e.scope.kind) hc).trans hk, ⟨(congrArg Env.globals hc).trans S.glob.1, (congrArg Env.builtins hc).trans S.glob.2⟩, by rw [show fx'.env.locals = s.heap.objs.size from hL]; exact List.mem_cons_self,
    fun b hb => ?_, ⟨_, by rw [show fx'.env.locals = s.heap.objs.size from hL]; exact hns⟩, fun y hy => ?_, fun y c e => ?_, fun y z c e1 e2 => ?_, fun y v hv => ?_, ?_, S.frA, ?_, ?_⟩, ⟨(congrArg Env.scope hc), fun x hx => .inl hx, fun x hx c hl hx' => ?_, by show cenv.frame = _; rw [hc], by show cenv.code = _; rw [hc]⟩, hW, fun x c e => (two x c e).imp id fun h => Nat.le_of_succ_le h.1⟩
  · rcases hb with hb | hb
    · exact S.above b (.inl hb)
    · exact none' b (hW b hb)
  · rcases List.mem_cons.mp hb with rfl | hb
    · obtain ⟨o, _, _, e, _⟩ := hns; exact ⟨o, e⟩
    · obtain ⟨p, hp, e⟩ := List.mem_filterMap.mp (List.mem_filter.mp hb).1
      rcases two _ _ e with h | ⟨_, o, ho, _⟩
      · exact absurd (lt _ _ h) (Nat.not_lt.mpr (hW b (List.mem_cons_of_mem _ hb)))
      · exact ⟨o, ho⟩
  · have hy : cenv.kindOf y = some .cell := hy
    rw [hkd] at hy
    show ∃ c, cenv.cells.lookup y = some c
    rw [hcs]
    refine Option.isSome_iff_exists.mp (cellsFrom_acc _ _ _ _ ?_)
    rcases hcell y hy with h | h
    · exact .inl (closL_some (.inr h))
    · exact .inr h
  · rcases two y c e with h | ⟨h1, h2⟩
    · obtain ⟨⟨r, hr⟩, h2, h3, h4⟩ := S.cellA y c h
      exact ⟨⟨r, hr.keeps keep⟩, h2, h3, by rw [show fx'.env.locals = s.heap.objs.size from hL]; exact Nat.ne_of_lt (lt _ _ h)⟩
    · have hle : s.heap.objs.size ≤ c := Nat.le_of_succ_le h1
      exact ⟨⟨_, h2⟩, apart c (inW y c e hle), none' c hle, by rw [show fx'.env.locals = s.heap.objs.size from hL]; exact Nat.ne_of_gt h1⟩
  · have e1 := mem_of_lookup e1
    have e2 := mem_of_lookup e2
    rw [show fx'.env.cells = _ from hcs] at e1 e2
    exact cellsFrom_inj (fun x c h => Nat.lt_succ_of_lt (lt x c (clos x c h))) (fun x y c h1 h2 => S.cellI x y c (clos x c h1) (clos y c h2)) y z c e1 e2
  · obtain ⟨h1, h2, h3, h4⟩ := hmf y v hv
    obtain ⟨c, hc'⟩ := freeC y h2
    have hl : cenv.cells.lookup y = some c := by
      obtain ⟨c₁, hc₁⟩ : ∃ c₁, cenv.cells.lookup y = some c₁ := by
        rw [hcs]
        exact Option.isSome_iff_exists.mp (cellsFrom_acc _ _ _ _ (.inl (closL_some (.inr h2))))
      rcases two y c₁ hc₁ with h | ⟨h5, h6⟩
      · rw [hc'] at h; cases h; exact hc₁
      · exfalso
        have hm := mem_of_lookup hc₁
        rw [hcs] at hm
        have own : ∀ {names : List (PySem.Str × NameKind)} {n : Nat} {acc : List (PySem.Str × Addr)} {x : PySem.Str} {c : Addr}, (x, c) ∈ cellsFrom n names acc → (x, c) ∈ acc ∨ (x, NameKind.cell) ∈ names := by
          intro names
          induction names with
          | nil => intro _ _ _ _ h; exact .inl h
          | cons p r ih =>
            intro n acc x c h
            obtain ⟨z, k⟩ := p
            unfold cellsFrom at h
            split at h
            · rename_i hk
              rcases ih h with h | h
              · rcases List.mem_cons.mp h with e | h
                · cases e; exact .inr (by rw [beq_iff_eq.mp hk]; exact List.mem_cons_self)
                · exact .inl h
              · exact .inr (List.mem_cons_of_mem _ h)
            · rcases ih h with h | h
              · exact .inl h
              · exact .inr (List.mem_cons_of_mem _ h)
        rcases own hm with h | h
        · exact absurd (lt _ _ (clos y c₁ h)) (Nat.not_lt.mpr (Nat.le_of_succ_le h5))
        · exact h3 h
    rcases S.vars y v h1 with ⟨k, _⟩ | ⟨k, c', r, e1, e2, e3⟩
    · rw [hfree y h2] at k; cases k
    · rw [hc'] at e1; cases e1
      exact .inr ⟨.inl ((hkd y).trans h4), c, r, hl, e2.keeps keep, e3⟩
  · obtain ⟨l, hl, hF⟩ := S.frs
    exact ⟨l, hl, hF.of_keeps fun b o h1 h2 => ⟨o, keep b o h1, rfl⟩⟩
  · rw [hs]; exact S.gens
  · rw [hs]; exact S.os
  · have hm := mem_of_lookup hl
    rw [show fx'.env.cells = _ from hcs, ← hsz] at hm
    rcases pushCells_cell hm with h | ⟨h1, _⟩
    · rcases closL_mem h with h | ⟨h, _⟩
      · cases h
      · exact absurd h hx'
    · rw [hsz] at h1
      exact inW x c hl (Nat.le_of_succ_le h1)
end
end Mine

namespace Mine
open PySem PySem.W PyProof.Rows
open Sem (wp)

section
variable {α : Type} {C : Cfg} {A A' : Around} {fx fx' : Fx} {m m' m₁ : Lo} {H H' H₁ : AH} {X : Value → Lo → AH → Prop} {K : Frag} {s s' s₁ : Shared}

theorem Ext.newer {I : Addr} (E : Ext A fx H₁ s₁ H s) (h : s.heap.get? I = none) : ∀ o, s₁.heap.get? I = some o → I ∈ H₁.keys ∨ I ∈ fx.W := fun o e => by
  by_cases h1 : I ∈ H₁.keys
  · exact .inl h1
  · by_cases h2 : I ∈ fx.W
    · exact .inr h2
    · obtain ⟨sl, e', _⟩ := E.hid I o e h1 h2
      rw [h] at e'; cases e'

/-! ### the conditions of a comprehension -/
noncomputable def TST (C : Cfg) (A : Around) (fx : Fx) : List PySem.Expr → Lo → AH → (Bool → Lo → AH → Prop) → (Value → Lo → AH → Prop) → Prop
  | [], m, H, Q, _ => Q true m H
  | c :: r, m, H, Q, X => IT C A fx c m H (fun b m₁ H₁ => if b = true then TST C A fx r m₁ H₁ Q X else Q false m₁ H₁) X
theorem tests_false {ifs : List PySem.Expr} {env : Env} : (forIn ifs false fun c r => if r = true then do let ok ← isTrue c env (eval c env); pure (ForInStep.yield ok) else pure (ForInStep.yield r)) = (pure false : Sem Bool) := by
  induction ifs with
  | nil => rw [List.forIn_nil]
  | cons c r ih => rw [List.forIn_cons]; simp only [Bool.false_eq_true, if_false]; exact ih
theorem aw_tests {ifs : List PySem.Expr} {Q : Bool → Lo → AH → Prop} (h : TST C A fx ifs m H Q X) :
    AW C A fx (forIn ifs true fun c r => if r = true then do let ok ← isTrue c fx.env (eval c fx.env); pure (ForInStep.yield ok) else pure (ForInStep.yield r)) m H Q X := by
  induction ifs generalizing m H with
  | nil => rw [List.forIn_nil]; exact aw_pure h
  | cons c r ih =>
    rw [List.forIn_cons]
    simp only [if_true]
    refine aw_bind (aw_bind (aw_mono h (fun b m₁ H₁ hb => aw_pure ?_) fun _ _ _ x => x))
    cases b with
    | true => exact ih (by simpa using hb)
    | false => dsimp only; rw [tests_false]; exact aw_pure (by simpa using hb)

/-! ### what a comprehension gathers -/
noncomputable def EMIT (C : Cfg) (A : Around) (fx : Fx) (e : PySem.Expr) (m : Lo) (H : AH) (acc : AO) (Q : Lo → AH → AO → Prop) : Prop := match e with
  | .ListComp elt _ _ _ => EV C A fx elt m H (fun v m₁ H₁ => ∃ ys, acc = .list ys ∧ ys.length ≤ 1000000 ∧ Q m₁ H₁ (.list (ys ++ [v]))) noX
  | .DictComp k v _ _ _ => EV C A fx k m H (fun kv m₁ H₁ => EV C A fx v m₁ H₁ (fun vv m₂ H₂ => ∃ i kvs ep, kv = vI i ∧ acc = .dict kvs ep ∧ kvs.length ≤ 1000000 ∧ ∀ ep', Q m₂ H₂ (.dict (stored kvs i vv) ep')) noX) noX
  | _ => False
noncomputable def GENS (C : Cfg) (A : Around) (fx : Fx) (e : PySem.Expr) : List Comprehension → Lo → AH → AO → (Lo → AH → AO → Prop) → Prop
  | [], m, H, acc, post => EMIT C A fx e m H acc post
  | g :: gs, m, H, acc, post => EV C A fx g.iter m H (fun x m₁ H₁ => ∃ vals P, ITR C A fx x m₁ H₁ vals P ∧ ∃ J : Nat → Lo → AH → AO → Prop, J 0 m₁ H₁ acc ∧ (∀ i m H acc, J i m H acc → P H) ∧
      (∀ i v m H acc, vals[i]? = some v → J i m H acc → ASG C A fx g.target v m H (fun m₂ H₂ => TST C A fx g.ifs m₂ H₂ (fun ok m₃ H₃ => if ok = true then GENS C A fx e gs m₃ H₃ acc (J (i + 1)) else J (i + 1) m₃ H₃ acc) noX) noX) ∧
      (∀ m H acc, J vals.length m H acc → post m H acc)) noX
structure GOK (g : Comprehension) : Prop where
  async : g.is_async = 0
  folded : ∀ env x, foldedSetIterable g.iter env x = pure x
  owned : ∀ I v, letOwnedTupleGo g.target I v = pure ()
noncomputable def CS (C : Cfg) (A : Around) (fx : Fx) (H₁ : AH) (s₁ : Shared) (D : Addr) (ZK : Addr → Obj → Prop) (s : Shared) (m : Lo) (H : AH) (acc : AO) : Prop :=
  (St C A fx m H s ∧ Ext A fx H₁ s₁ H s ∧ D ∉ H.keys ∧ ∃ o, s.heap.get? D = some o ∧ OR C o acc) ∧ ∀ Z o, ZK Z o → s.heap.get? Z = some o ∧ Z ∉ H.keys
structure ZOk (A : Around) (fx : Fx) (D : Addr) (ZK : Addr → Obj → Prop) : Prop where
  W : ∀ Z o, ZK Z o → Z ∉ fx.W
  frame : ∀ Z o, ZK Z o → Z ∉ frameAddrs A
  ne : ∀ Z o, ZK Z o → Z ≠ D
theorem zkept {ZK : Addr → Obj → Prop} {D : Addr} (hZ : ZOk A fx D ZK) (S : St C A fx m H s) (E : Ext A fx H s H' s') (h : ∀ Z o, ZK Z o → s.heap.get? Z = some o ∧ Z ∉ H.keys) : ∀ Z o, ZK Z o → s'.heap.get? Z = some o ∧ Z ∉ H'.keys :=
  fun Z o hz => let ⟨a, b⟩ := h Z o hz; E.kept S a b (hZ.W Z o hz) (hZ.frame Z o hz)
theorem stored_er {raw : List (Int × Value)} {kvs : List (Int × Value)} (h : raw.map (fun kv => (kv.1, er kv.2)) = kvs) (k : Int) (v : Value) : (stored raw k v).map (fun kv => (kv.1, er kv.2)) = stored kvs k (er v) := by
  subst h
  unfold stored
  have e : (raw.any fun kv => decide (kv.1 = k)) = ((raw.map fun kv => (kv.1, er kv.2)).any fun kv => decide (kv.1 = k)) := by rw [List.any_map]; rfl
  rw [e]
  split
  · rw [List.map_map, List.map_map]
    refine List.map_congr_left fun kv _ => ?_
    simp only [Function.comp]
    split <;> rfl
  · rw [List.map_append]; rfl
theorem or_dict {h : Heap} {d : Addr} {raw kvs : List (Int × Value)} (x : h.DictOf (intKind C.prog C.w) d raw) (e : raw.map (fun kv => (kv.1, er kv.2)) = kvs) : ∃ o ep, h.get? d = some o ∧ OR C o (.dict kvs ep) := by
  obtain ⟨o, es, ep, ho, hc, hd, hk, hp, hn⟩ := x
  refine ⟨o, ep, ho, hc, es, hd, hk, ?_, raw, hp, e⟩
  subst e
  rw [List.map_map]; exact hn
theorem dict_of {h : Heap} {d : Addr} {o : Obj} {kvs : List (Int × Value)} {ep : Nat} (ho : h.get? d = some o) (hr : OR C o (.dict kvs ep)) : ∃ raw, h.DictOf (intKind C.prog C.w) d raw ∧ raw.map (fun kv => (kv.1, er kv.2)) = kvs := by
  obtain ⟨h1, es, h2, h3, h4, raw, h5, h6⟩ := hr
  refine ⟨raw, ⟨o, es, ep, ho, h1, h2, h3, h5, ?_⟩, h6⟩
  rw [← h6, List.map_map] at h4
  exact h4

noncomputable def emitOf (e : PySem.Expr) (D : Addr) (env : Env) : Sem Unit := match e with
  | .ListComp elt _ _ _ => do let _ ← call (.builtin "list.append") [.ref D, ← eval elt env]
  | .DictComp k v _ _ _ => do
      let kv ← eval k env
      let vv ← holding [kv] (eval v env)
      standAt { k.pos with endLine := v.pos.endLine, endCol := v.pos.endCol }
      holding [kv, vv] (dictSet D kv vv)
  | _ => pure ()
noncomputable def tailOf (e : PySem.Expr) (d : Nat) (D : Addr) (env : Env) (k : Sem Fin) : List Comprehension → Sem Fin
  | [] => do emitOf e D env; k
  | g :: _ => do
    let x ← eval g.iter env
    standAt g.iter.pos
    let x ← foldedSetIterable g.iter env x
    let it ← holding [x] (pyIter x)
    let _ ← runOwn (.compStart e d it (.ref D) env) env
    k

theorem turn_eq {e : PySem.Expr} {d : Nat} {I : Value} {D : Addr} {env : Env} {g : Comprehension} {gs : List Comprehension} (he : (∃ a b c f, e = .ListComp a b c f) ∨ ∃ a b c f x, e = .DictComp a b c f x) (hd : (clausesOf e).drop d = g :: gs) (hg : g.is_async = 0) (hgs : ∀ g ∈ gs, g.is_async = 0) :
    compTurn e d I (.ref D) env = (do
      standAt g.iter.pos
      match ← pyNext I with
      | none => pure (.done .next)
      | some v =>
        letOwnedTupleGo g.target I v
        assign g.target env v
        let ok ← forIn g.ifs true fun c r => if r = true then do let ok ← isTrue c env (eval c env); pure (ForInStep.yield ok) else pure (ForInStep.yield r)
        if ok = true then tailOf e (d + 1) D env (again (.compLoop e d I (.ref D) env)) gs else again (.compLoop e d I (.ref D) env)) := by
  have h0 : (clausesOf e)[d]? = some g := by
    have := congrArg List.head? hd
    rw [List.head?_drop] at this
    exact this
  have h1 : (clausesOf e)[d + 1]? = gs.head? := by
    have := congrArg List.tail hd
    rw [List.tail_drop] at this
    have := congrArg List.head? this
    rw [List.head?_drop] at this
    exact this
  rcases he with ⟨a, b, c, f, rfl⟩ | ⟨a, b, c, f, x, rfl⟩
  · unfold compTurn
    dsimp only [clausesOf] at h0 h1 ⊢
    rw [h0, h1]
    have ha : (g.is_async != 0) = false := by rw [hg]; rfl
    simp only [ha, Bool.false_eq_true, if_false]
    congr 1; funext _
    congr 1; funext r
    cases r with
    | none => rfl
    | some v =>
      dsimp only
      congr 1; funext _
      congr 1; funext _
      congr 1; funext ok
      cases ok with
      | false => rfl
      | true =>
        cases gs with
        | nil => rfl
        | cons g' r =>
          have ha' : (g'.is_async != 0) = false := by rw [hgs g' List.mem_cons_self]; rfl
          simp only [List.head?_cons, ha', Bool.false_eq_true, if_false, if_true]
          rfl
  · unfold compTurn
    dsimp only [clausesOf] at h0 h1 ⊢
    rw [h0, h1]
    have ha : (g.is_async != 0) = false := by rw [hg]; rfl
    simp only [ha, Bool.false_eq_true, if_false]
    congr 1; funext _
    congr 1; funext r
    cases r with
    | none => rfl
    | some v =>
      dsimp only
      congr 1; funext _
      congr 1; funext _
      congr 1; funext ok
      cases ok with
      | false => rfl
      | true =>
        cases gs with
        | nil => rfl
        | cons g' r =>
          have ha' : (g'.is_async != 0) = false := by rw [hgs g' List.mem_cons_self]; rfl
          simp only [List.head?_cons, ha', Bool.false_eq_true, if_false, if_true]
          rfl

theorem emit_run {e : PySem.Expr} {D : Addr} {ZK : Addr → Obj → Prop} (hZ : ZOk A fx D ZK) {acc : AO} {post : Lo → AH → AO → Prop} (he : (∃ a b c f, e = .ListComp a b c f) ∨ ∃ a b c f x, e = .DictComp a b c f x) (F : Off C A fx D) (hD : s₁.heap.get? D = none)
    (h : EMIT C A fx e m H acc post) (cs : CS C A fx H₁ s₁ D ZK s m H acc) : wpAny (model C.prog C.w) A (emitOf e D fx.env) (fun _ s' => ∃ m' H' acc', CS C A fx H₁ s₁ D ZK s' m' H' acc' ∧ post m' H' acc') (fun _ _ => False) s := by
  obtain ⟨⟨S, E, hDH, o, ho, hr⟩, hz₀⟩ := cs
  have hD' : ∀ o, s₁.heap.get? D = some o → D ∈ H₁.keys ∨ D ∈ fx.W := fun o e => by rw [hD] at e; cases e
  rcases he with ⟨elt, b, c, f, rfl⟩ | ⟨k, v, c, f, x, rfl⟩
  · refine wpAny_bind (wpAny_mono (h s S) (fun y s₂ h₂ => ?_) fun _ _ h₂ => ?_)
    · obtain ⟨m₂, H₂, S₂, E₂, ys, rfl, hz, q⟩ := h₂
      obtain ⟨ho₂, hDH₂⟩ := E₂.kept S ho hDH F.W F.frame
      obtain ⟨vs, n, rfl, h4⟩ := or_list hr
      refine wpAny_bind (wpAny_list_append_plain (items := vs) ⟨n, ho₂⟩ (fun h' hl hs => wpAny_pure ?_) (by rw [size_of_er h4, sizeLine_eq]; omega))
      have EE := E.trans E₂
      obtain ⟨S₃, E₃⟩ := S₂.aside F hD' EE hDH₂ (s' := { s₂ with heap := h' }) fun b o hb e => (hs.2 b hb).trans e
      obtain ⟨n', ho'⟩ := hl
      refine ⟨m₂, H₂, _, ⟨⟨S₃, E₃, hDH₂, _, ho', ?_⟩, fun Z o hz => let ⟨a, b⟩ := zkept hZ S E₂ hz₀ Z o hz; ⟨(hs.2 Z (hZ.ne Z o hz)).trans a, b⟩⟩, q⟩
      exact ⟨rfl, ⟨rfl, rfl⟩, _, _, rfl, by rw [Array.toList_push, List.map_append, h4]; rfl⟩
    · obtain ⟨_, _, _, _, z⟩ := h₂; exact z
  · refine wpAny_bind (wpAny_mono (h s S) (fun kv s₂ h₂ => ?_) fun _ _ h₂ => ?_)
    · obtain ⟨m₂, H₂, S₂, E₂, hv⟩ := h₂
      refine wpAny_bind (wpAny_holding (wpAny_mono (hv s₂ S₂) (fun vv s₃ h₃ => ?_) fun _ _ h₃ => ?_))
      · obtain ⟨m₃, H₃, S₃, E₃, i, kvs, ep, hk, rfl, hz, q⟩ := h₃
        obtain ⟨t, rfl⟩ := er_eq_int hk
        have EE := E.trans (E₂.trans E₃)
        obtain ⟨ho₃, hDH₃⟩ := (E₂.trans E₃).kept S ho hDH F.W F.frame
        obtain ⟨raw, hd, hraw⟩ := dict_of ho₃ hr
        refine wpAny_bind (wpAny_standAt (wpAny_holding ?_))
        refine wpAny_dictSet_pairs (knd := intKind C.prog C.w) (k := i) (by simp [intKind, Value.isInt]) hd (fun h' hd' hs => ?_) (by rw [raw_len hraw, sizeLine_eq]; omega)
        obtain ⟨S₄, E₄⟩ := S₃.aside F hD' EE hDH₃ (s' := { s₃ with heap := h', toks := s₃.toks + 1 }) fun b o hb e => (hs.2 b hb).trans e
        obtain ⟨o', ep', ho', hr'⟩ := or_dict hd' (stored_er hraw i vv)
        exact ⟨m₃, H₃, _, ⟨⟨S₄, E₄, hDH₃, o', ho', hr'⟩, fun Z o hz => let ⟨a, b⟩ := zkept hZ S (E₂.trans E₃) hz₀ Z o hz; ⟨(hs.2 Z (hZ.ne Z o hz)).trans a, b⟩⟩, q ep'⟩
      · obtain ⟨_, _, _, _, z⟩ := h₃; exact z
    · obtain ⟨_, _, _, _, z⟩ := h₂; exact z
end
end Mine

namespace Mine
open PySem PySem.W PyProof.Rows
open Sem (wp)

section
variable {α : Type} {C : Cfg} {A A' : Around} {fx fx' : Fx} {m m' m₁ : Lo} {H H' H₁ : AH} {X : Value → Lo → AH → Prop} {K : Frag} {s s' s₁ : Shared}

noncomputable abbrev IsComp (e : PySem.Expr) : Prop := (∃ a b c f, e = .ListComp a b c f) ∨ ∃ a b c f x, e = .DictComp a b c f x

theorem loop_entry {e : PySem.Expr} {d : Nat} {it acc : Value} {env : Env} {R : Result → Shared → Prop} {M : Model} (he : IsComp e) (I : Nat → Shared → Prop)
    (turn : ∀ n s, I n s → wpAny (model C.prog C.w) A (compTurn e d it acc env) (fun fin s' => match fin with
      | .done f => R (.ok f) s'
      | .again c' => c' = .compLoop e d it acc env ∧ ∃ m, m < n ∧ I m s') (fun _ _ => False) s) (n : Nat) (h : I n s) : codeAny (model C.prog C.w) A (.compLoop e d it acc env) R s := by
  rcases he with ⟨a, b, c, f, rfl⟩ | ⟨a, b, c, f, x, rfl⟩
  · refine codeAny_loop' rfl I (fun n s hI => ?_) n h
    show wpAny _ A ((compTurn _ d it acc env).onRaise (fun x => do noteFrame x env; theTreesLotGoes x)) _ _ s
    refine wpAny_onRaise (wpAny_mono (turn n s hI) (fun fin s' hf => ?_) fun _ _ z => z.elim)
    cases fin with
    | done f => exact hf
    | again c' => exact .inl hf
  · refine codeAny_loop' rfl I (fun n s hI => ?_) n h
    show wpAny _ A ((compTurn _ d it acc env).onRaise (fun x => do noteFrame x env; theTreesLotGoes x)) _ _ s
    refine wpAny_onRaise (wpAny_mono (turn n s hI) (fun fin s' hf => ?_) fun _ _ z => z.elim)
    cases fin with
    | done f => exact hf
    | again c' => exact .inl hf
theorem start_entry {e : PySem.Expr} {d : Nat} {it acc : Value} {env : Env} {R : Result → Shared → Prop} (he : IsComp e) {g : Comprehension} (hg : (clausesOf e)[d]? = some g) (ha : g.is_async = 0)
    (self : ∀ (Q : Value → Shared → Prop) (E : Value → Shared → Prop), Q it s → wpAny (model C.prog C.w) A (pyIter it) Q E s)
    (h : codeAny (model C.prog C.w) A (.compLoop e d it acc env) R s) : codeAny (model C.prog C.w) A (.compStart e d it acc env) R s := by
  have key : wpAny (model C.prog C.w) A (compStart e d it acc env) (fun fin s' => match fin with
      | .done f => R (.ok f) s'
      | .again c' => c'.quiet = true ∧ codeAny (model C.prog C.w) A c' R s') (fun _ _ => False) s := by
    have hq : (Code.compLoop e d it acc env).quiet = true := by rcases he with ⟨a, b, c, f, rfl⟩ | ⟨a, b, c, f, x, rfl⟩ <;> rfl
    unfold compStart
    rw [hg]
    have ha' : (g.is_async != 0) = false := by rw [ha]; rfl
    simp only [Option.elim_some, ha', Bool.false_eq_true, if_false]
    refine wpAny_bind (wpAny_askSetting (wpAny_ite ?_))
    split
    · exact wpAny_pure ⟨hq, h⟩
    · refine wpAny_bind (wpAny_rule (wpAny_bind (wpAny_standAt (wpAny_bind (self _ _ (wpAny_pure ⟨hq, h⟩))))))
  rcases he with ⟨a, b, c, f, rfl⟩ | ⟨a, b, c, f, x, rfl⟩
  · refine codeAny_of_tree ?_
    show wpAny _ A ((compStart _ d it acc env).onRaise (fun x => do noteFrame x env; standAt theWindowsPlace)) _ _ s
    exact wpAny_onRaise (wpAny_mono key (fun fin s' hf => by cases fin <;> exact hf) fun _ _ z => z.elim)
  · refine codeAny_of_tree ?_
    show wpAny _ A ((compStart _ d it acc env).onRaise (fun x => do noteFrame x env; standAt theWindowsPlace)) _ _ s
    exact wpAny_onRaise (wpAny_mono key (fun fin s' hf => by cases fin <;> exact hf) fun _ _ z => z.elim)

noncomputable def RUNS (C : Cfg) (A : Around) (fx : Fx) (H₁ : AH) (s₁ : Shared) (D : Addr) (e : PySem.Expr) (d : Nat) (gs : List Comprehension) : Prop :=
  ∀ (ZK : Addr → Obj → Prop), ZOk A fx D ZK → ∀ m H acc post s (k : Sem Fin) (QF : Fin → Shared → Prop), GENS C A fx e gs m H acc post → CS C A fx H₁ s₁ D ZK s m H acc →
    (∀ s' m' H' acc', CS C A fx H₁ s₁ D ZK s' m' H' acc' → post m' H' acc' → wpAny (model C.prog C.w) A k QF (fun _ _ => False) s') → wpAny (model C.prog C.w) A (tailOf e d D fx.env k gs) QF (fun _ _ => False) s

theorem comp_code {e : PySem.Expr} {d : Nat} {g : Comprehension} {gs : List Comprehension} {D I : Addr} {vals : List Value} {P : AH → Prop} {Pos : Nat → Heap → Prop} {ZK : Addr → Obj → Prop} {J : Nat → Lo → AH → AO → Prop} {acc : AO} (he : IsComp e)
    (hd : (clausesOf e).drop d = g :: gs) (hg : GOK g) (hgs : ∀ g ∈ gs, g.is_async = 0) (F : Off C A fx D) (hD : s₁.heap.get? D = none) (hZ : ZOk A fx D ZK)
    (it : Itr C A I vals P Pos) (FI : Off C A fx I) (hI : ∀ o, s₁.heap.get? I = some o → I ∈ H₁.keys ∨ I ∈ fx.W) (hID : I ≠ D) (hIZ : ∀ Z o, ZK Z o → Z ≠ I)
    (ih : RUNS C A fx H₁ s₁ D e (d + 1) gs) (jP : ∀ i m H acc, J i m H acc → P H)
    (turn : ∀ i v m H acc, vals[i]? = some v → J i m H acc → ASG C A fx g.target v m H (fun m₂ H₂ => TST C A fx g.ifs m₂ H₂ (fun ok m₃ H₃ => if ok = true then GENS C A fx e gs m₃ H₃ acc (J (i + 1)) else J (i + 1) m₃ H₃ acc) noX) noX)
    (cs : CS C A fx H₁ s₁ D ZK s m H acc) (hIH : I ∉ H.keys) (p0 : Pos 0 s.heap) (j0 : J 0 m H acc) :
    codeAny (model C.prog C.w) A (.compStart e d (.ref I) (.ref D) fx.env) (fun r s' => r = .ok .next ∧ ∃ m H acc, CS C A fx H₁ s₁ D ZK s' m H acc ∧ J vals.length m H acc) s := by
  have hg0 : (clausesOf e)[d]? = some g := by
    have := congrArg List.head? hd
    rw [List.head?_drop] at this
    exact this
  refine start_entry he hg0 hg.async (fun Q E q => it.self 0 s Q E p0 q) ?_
  refine loop_entry (M := model C.prog C.w) he (fun n s => ∃ i m H acc, n = vals.length + 1 - i ∧ i ≤ vals.length ∧ CS C A fx H₁ s₁ D ZK s m H acc ∧ I ∉ H.keys ∧ Pos i s.heap ∧ J i m H acc) ?_ (vals.length + 1)
    ⟨0, m, H, acc, rfl, Nat.zero_le _, cs, hIH, p0, j0⟩
  rintro n s ⟨i, m, H, acc, rfl, hi, ⟨⟨S, E, hDH, o, ho, hr⟩, hz⟩, hIH, pi, ji⟩
  rw [turn_eq he hd hg.async hgs]
  have move : ∀ h' tk, (∀ b o, b ≠ I → s.heap.get? b = some o → h'.get? b = some o) → CS C A fx H₁ s₁ D ZK { s with heap := h', toks := tk } m H acc := fun h' tk hk' => by
    obtain ⟨S', E'⟩ := S.aside FI hI E hIH (s' := { s with heap := h', toks := tk }) hk'
    exact ⟨⟨S', E', hDH, o, hk' _ _ (Ne.symm hID) ho, hr⟩, fun Z o hz' => ⟨hk' _ _ (hIZ Z o hz') (hz Z o hz').1, (hz Z o hz').2⟩⟩
  refine wpAny_bind (wpAny_standAt (wpAny_bind ?_))
  cases q : vals[i]? with
  | none =>
    have hi' : i = vals.length := Nat.le_antisymm hi (List.getElem?_eq_none_iff.mp q)
    subst hi'
    refine it.done fx m H s _ _ (jP _ _ _ _ ji) S hIH pi fun h' tk' hk' => ?_
    exact wpAny_pure ⟨rfl, m, H, acc, move h' tk' hk', ji⟩
  | some v =>
    have hlt : i < vals.length := (List.getElem?_eq_some_iff.mp q).1
    refine it.item i v fx m H s _ _ q (jP _ _ _ _ ji) S hIH pi fun r h' tk' hr' p1 hk' => ?_
    obtain ⟨⟨S', E', hDH', o', ho', hro'⟩, hz'⟩ := move h' tk' hk'
    dsimp only
    rw [hg.owned]
    refine wpAny_bind (wpAny_pure (wpAny_bind ?_))
    obtain ⟨oI, hoI⟩ := it.there _ _ p1
    let ZK' : Addr → Obj → Prop := fun Z o => ZK Z o ∨ (Z = I ∧ o = oI)
    have hZ' : ZOk A fx D ZK' := ⟨fun Z o h => h.elim (hZ.W Z o) fun h => h.1 ▸ FI.W, fun Z o h => h.elim (hZ.frame Z o) fun h => h.1 ▸ FI.frame, fun Z o h => h.elim (hZ.ne Z o) fun h => h.1 ▸ hID⟩
    have z₀ : ∀ Z o, ZK' Z o → ({ s with heap := h', toks := tk' } : Shared).heap.get? Z = some o ∧ Z ∉ H.keys := fun Z o h => h.elim (hz' Z o) fun h => by obtain ⟨rfl, rfl⟩ := h; exact ⟨hoI, hIH⟩
    have back : ∀ {s₃ m₃ H₃ acc₃}, CS C A fx H₁ s₁ D ZK' s₃ m₃ H₃ acc₃ → J (i + 1) m₃ H₃ acc₃ → ∃ n', n' < vals.length + 1 - i ∧ ∃ i m H acc, n' = vals.length + 1 - i ∧ i ≤ vals.length ∧ CS C A fx H₁ s₁ D ZK s₃ m H acc ∧ I ∉ H.keys ∧ Pos i s₃.heap ∧ J i m H acc := fun {s₃ m₃ H₃ acc₃} c j =>
      ⟨_, lt_down (Nat.lt_succ_of_lt hlt), i + 1, m₃, H₃, acc₃, rfl, hlt, ⟨c.1, fun Z o h => c.2 Z o (.inl h)⟩, (c.2 I oI (.inr ⟨rfl, rfl⟩)).2, it.keep _ _ _ p1 fun o'' ho'' => by rw [hoI] at ho''; cases ho''; exact (c.2 I oI (.inr ⟨rfl, rfl⟩)).1, j⟩
    refine wpAny_mono (turn i v m H acc q ji r hr' _ S') (fun _ s₂ h₂ => ?_) fun _ _ h₂ => ?_
    · obtain ⟨m₂, H₂, S₂, E₂, q₂⟩ := h₂
      refine wpAny_bind (wpAny_mono (aw_tests q₂ s₂ S₂) (fun ok s₃ h₃ => ?_) fun _ _ h₃ => ?_)
      · obtain ⟨m₃, H₃, S₃, E₃, q₃⟩ := h₃
        have EE := E₂.trans E₃
        obtain ⟨hoD, hDH₃⟩ := EE.kept S' ho' hDH' F.W F.frame
        have c₃ : CS C A fx H₁ s₁ D ZK' s₃ m₃ H₃ acc := ⟨⟨S₃, E'.trans EE, hDH₃, o', hoD, hro'⟩, zkept hZ' S' EE z₀⟩
        cases ok with
        | false =>
          simp only [Bool.false_eq_true, if_false] at q₃ ⊢
          exact wpAny_pure ⟨rfl, back c₃ q₃⟩
        | true =>
          simp only [if_true] at q₃ ⊢
          exact ih ZK' hZ' m₃ H₃ acc _ s₃ _ _ q₃ c₃ fun s' m' H' acc' c' j' => wpAny_pure ⟨rfl, back c' j'⟩
      · obtain ⟨_, _, _, _, z⟩ := h₃; exact z
    · obtain ⟨_, _, _, _, z⟩ := h₂; exact z

theorem gens_run {e : PySem.Expr} {D : Addr} (he : IsComp e) (F : Off C A fx D) (hD : s₁.heap.get? D = none) : ∀ (gs : List Comprehension) (d : Nat), (clausesOf e).drop d = gs → (∀ g ∈ gs, GOK g) → RUNS C A fx H₁ s₁ D e d gs
  | [], d, hd, hall => fun ZK hZ m H acc post s k QF hG cs hk =>
    wpAny_bind (wpAny_mono (emit_run hZ he F hD hG cs) (fun _ s' ⟨m', H', acc', c', p'⟩ => hk s' m' H' acc' c' p') fun _ _ z => z)
  | g :: gs, d, hd, hall => fun ZK hZ m H acc post s k QF hG cs hk => by
    have hd' : (clausesOf e).drop (d + 1) = gs := by
      have := congrArg List.tail hd
      rw [List.tail_drop] at this
      exact this
    have ih := gens_run he F hD gs (d + 1) hd' fun g' h' => hall g' (List.mem_cons_of_mem _ h')
    have hg := hall g List.mem_cons_self
    obtain ⟨⟨S, E, hDH, o, ho, hr⟩, hz⟩ := cs
    unfold tailOf
    refine wpAny_bind (wpAny_mono (hG s S) (fun x s₂ h₂ => ?_) fun _ _ h₂ => ?_)
    · obtain ⟨m₂, H₂, S₂, E₂, vals, P, hI, J, j0, jP, turn, done⟩ := h₂
      obtain ⟨hoD, hDH₂⟩ := E₂.kept S ho hDH F.W F.frame
      have hz₂ := zkept hZ S E₂ hz
      refine wpAny_bind (wpAny_standAt ?_)
      rw [hg.folded]
      refine wpAny_bind (wpAny_pure (wpAny_bind (wpAny_holding (hI x rfl s₂ _ _ S₂ fun I h₃ tk Pos it hnew hsm p0 hk₃ => ?_))))
      obtain ⟨S₃, E₃⟩ := S₂.keeps (s' := { s₂ with heap := h₃, toks := tk }) hk₃
      have EE := (E.trans E₂).trans E₃
      refine wpAny_bind (wpAny_runOwn (codeAny_mono (comp_code he hd hg (fun g' h' => (hall g' (List.mem_cons_of_mem _ h')).async) F hD hZ it (Off.of S₂ hnew) ((E.trans E₂).newer hnew) (fun q => by rw [q, hoD] at hnew; cases hnew)
        (fun Z o h q => by rw [← q, (hz₂ Z o h).1] at hnew; cases hnew) ih jP turn ⟨⟨S₃, EE, hDH₂, o, hk₃ _ _ hoD, hr⟩, fun Z o h => ⟨hk₃ _ _ (hz₂ Z o h).1, (hz₂ Z o h).2⟩⟩ (none_notKey S₂ hnew) p0 j0) fun r s' hr' => ?_))
      obtain ⟨rfl, m', H', acc', c', j'⟩ := hr'
      exact hk s' m' H' acc' c' (done m' H' acc' j')
    · obtain ⟨_, _, _, _, z⟩ := h₂; exact z
end
end Mine

namespace Mine
open PySem PySem.W PyProof.Rows
open Sem (wp)

section
variable {α : Type} {C : Cfg} {A A' : Around} {fx fx' : Fx} {m m' m₁ : Lo} {H H' H₁ : AH} {X : Value → Lo → AH → Prop} {K : Frag} {s s' s₁ : Shared}

noncomputable def distinctB : List (PySem.Str × NameKind) → Bool
  | [] => true
  | p :: r => !(r.any fun q => q.1 == p.1) && distinctB r
theorem distinct_of {l : List (PySem.Str × NameKind)} (h : distinctB l = true) : (l.map (·.1)).Nodup := by
  induction l with
  | nil => exact List.nodup_nil
  | cons p r ih =>
    unfold distinctB at h
    simp only [Bool.and_eq_true, Bool.not_eq_true', List.any_eq_false, beq_iff_eq] at h
    refine List.nodup_cons.mpr ⟨fun hm => ?_, ih h.2⟩
    obtain ⟨q, hq, e⟩ := List.mem_map.mp hm
    exact h.1 q hq e
noncomputable def scOkB (scope outer : Scope) : Bool := scope.kind == .function && outer.kind == .function && distinctB scope.names && scope.names.all fun p => p.2 != .free || outer.names.lookup p.1 == some .cell
noncomputable def freeLo (scope : Scope) (m : Lo) : Lo := m.filter fun p => scope.names.lookup p.1 == some .free
theorem mem_lookup {l : List (PySem.Str × NameKind)} {x : PySem.Str} {k : NameKind} (hn : (l.map (·.1)).Nodup) (h : (x, k) ∈ l) : l.lookup x = some k := by
  induction l with
  | nil => cases h
  | cons p r ih =>
    obtain ⟨y, j⟩ := p
    obtain ⟨h1, h2⟩ := List.nodup_cons.mp hn
    rcases List.mem_cons.mp h with e | h
    · cases e; simp
    · have hne : (x == y) = false := beq_eq_false_iff_ne.mpr fun e => h1 (e ▸ List.mem_map_of_mem (f := (·.1)) h)
      rw [List.lookup_cons, hne]; exact ih h2 h
structure ScOk (scope outer : Scope) : Prop where
  kind : scope.kind = .function
  okind : outer.kind = .function
  nodup : (scope.names.map (·.1)).Nodup
  free : ∀ x, (x, NameKind.free) ∈ scope.names → outer.names.lookup x = some .cell
theorem ScOk.of {scope outer : Scope} (h : scOkB scope outer = true) : ScOk scope outer := by
  unfold scOkB at h
  simp only [Bool.and_eq_true, beq_iff_eq, List.all_eq_true, Bool.or_eq_true, bne_iff_ne, ne_eq] at h
  obtain ⟨⟨⟨h1, h2⟩, h3⟩, h4⟩ := h
  exact ⟨h1, h2, distinct_of h3, fun x hx => (h4 _ hx).resolve_left fun n => n rfl⟩
theorem rel_lookup {outer : Scope} : ∀ {l : List (PySem.Str × NameKind)} {x : PySem.Str},
    (l.map fun (n, k) => if (k == NameKind.free && outer.kind == .function && outer.names.lookup n == some .cell) then (n, NameKind.cell) else (n, k)).lookup x = (l.lookup x).map fun k => if (k == NameKind.free && outer.kind == .function && outer.names.lookup x == some .cell) then NameKind.cell else k
  | [], _ => rfl
  | (n, k) :: r, x => by
    rw [List.map_cons]
    have e1 : ∀ (b : Bool), ((if b = true then (n, NameKind.cell) else (n, k)) : PySem.Str × NameKind) = (n, if b = true then NameKind.cell else k) := fun b => by cases b <;> rfl
    dsimp only
    rw [e1, List.lookup_cons, List.lookup_cons]
    cases hx : x == n with
    | true => rw [beq_iff_eq.mp hx]; rfl
    | false => exact rel_lookup
theorem freeLo_ok {scope outer : Scope} (h : ScOk scope outer) {x : PySem.Str} {v : Value} (hm : (x, v) ∈ freeLo scope m) : (x, v) ∈ m ∧ (x, NameKind.free) ∈ scope.names ∧ (x, NameKind.cell) ∉ scope.names ∧ (relS scope outer).names.lookup x = some .cell := by
  obtain ⟨h1, h2⟩ := List.mem_filter.mp hm
  have h3 := beq_iff_eq.mp h2
  refine ⟨h1, mem_of_lookup h3, fun h4 => ?_, ?_⟩
  · have := mem_lookup h.nodup h4
    rw [h3] at this; cases this
  · unfold relS
    rw [rel_lookup, h3]
    simp [h.okind, h.free x (mem_of_lookup h3)]
theorem rel_cell {scope outer : Scope} {x : PySem.Str} (h : (relS scope outer).names.lookup x = some .cell) : (x, NameKind.free) ∈ scope.names ∨ (x, NameKind.cell) ∈ scope.names := by
  unfold relS at h
  rw [rel_lookup] at h
  obtain ⟨k, h1, h2⟩ := Option.map_eq_some_iff.mp h
  have h1 := mem_of_lookup h1
  split at h2
  · rename_i hc
    simp only [Bool.and_eq_true, beq_iff_eq] at hc
    rw [hc.1.1] at h1
    exact .inl h1
  · rw [h2] at h1; exact .inr h1

theorem comp_newEnv {M : Model} {scope : Scope} {globals : Addr} {cl : List (PySem.Str × Addr)} {qual : PySem.Str} {env : Env} {E : Value → Shared → Prop} {Q : Env → Shared → Prop}
    (h : Q { scope := scope, locals := s.heap.objs.size, globals := globals, cells := cellsFrom (s.heap.objs.size + 1) scope.names cl, qual := qual, func := none, code := env.code, frame := env.frame, builtins := env.builtins } { s with heap := pushCells (s.heap.push { cls := .type "dict", data := .dict #[] }) scope.names }) :
    wpAny M A (newFunctionEnv scope globals cl [] qual none .none (some env)) Q E s := by
  simp only [newFunctionEnv, Option.isSome_some, if_true]
  refine wpAny_bind (wpAny_alloc ?_)
  refine wpAny_bind (wpAny_layCells _ (fun name kind cells => by cases hkc : kind == NameKind.cell <;> simp [hkc]) _ _ _ _ ?_)
  rw [show ({ s with heap := s.heap.push { cls := .type "dict", data := .dict #[] } } : Shared).heap.objs.size = s.heap.objs.size + 1 from Heap.size_push ..]
  refine wpAny_bind ?_
  rw [List.forIn_nil]
  exact wpAny_pure (wpAny_pure h)

theorem Off.comp {D : Addr} (S₁ : St C A fx m₁ H₁ s₁) (hD : s₁.heap.get? D = none) (hlt : D < s.heap.objs.size) (hW : ∀ b ∈ fx'.W, s.heap.objs.size ≤ b)
    (hC : ∀ x c, fx'.env.cells.lookup x = some c → fx.env.cells.lookup x = some c ∨ s.heap.objs.size ≤ c) : Off C A fx' D := by
  have F := Off.of S₁ hD
  refine ⟨F.base, fun h => Nat.lt_irrefl _ (Nat.lt_of_lt_of_le hlt (hW D h)), fun x c e => ?_, F.frame⟩
  rcases hC x c e with h | h
  · exact F.cell x c h
  · exact fun q => Nat.lt_irrefl _ (Nat.lt_of_lt_of_le hlt (q ▸ h))

noncomputable def CEND (C : Cfg) (A : Around) (fx : Fx) (use : Option (Value → Sem Unit)) (a : Addr) (m : Lo) (H : AH) (Q : Value → Lo → AH → Prop) (X : Value → Lo → AH → Prop) : Prop := match use with
  | none => Q (.ref a) m H
  | some u => AW C A fx (u (.ref a)) m H (fun _ => Q .none) noX

theorem aw_comp {e : PySem.Expr} {g : Comprehension} {gs : List Comprehension} {scope outer : Scope} {pos : Pos} {newAcc first : Sem Value} {o₀ : Obj} {acc₀ : AO} {use : Option (Value → Sem Unit)} {Q : Value → Lo → AH → Prop} (he : IsComp e) (hcl : clausesOf e = g :: gs)
    (hok : ∀ g' ∈ g :: gs, GOK g') (hsc : fx.env.scope = outer) (hb : scOkB scope outer = true) (hr₀ : OR C o₀ acc₀) (hf₀ : o₀.isFreed = false)
    (hnew : ∀ (s : Shared) (Q : Value → Shared → Prop) (E : Value → Shared → Prop), Q (.ref s.heap.objs.size) { s with heap := s.heap.push o₀ } → wpAny (model C.prog C.w) A newAcc Q E s)
    (h : AW C A fx first m H (fun x m₁ H₁ => ∃ vals P, ITR C A fx (er x) m₁ H₁ vals P ∧ ∃ J : Nat → Lo → AH → AO → Prop, J 0 (freeLo scope m₁) H₁ acc₀ ∧ (∀ i m H acc, J i m H acc → P H) ∧
      (∀ fx', CompFx fx scope fx' → fx'.env.scope = relS scope outer → ∀ i v m H acc, vals[i]? = some v → J i m H acc →
        ASG C A fx' g.target v m H (fun m₂ H₂ => TST C A fx' g.ifs m₂ H₂ (fun ok m₃ H₃ => if ok = true then GENS C A fx' e gs m₃ H₃ acc (J (i + 1)) else J (i + 1) m₃ H₃ acc) noX) noX) ∧
      (∀ m₂ H₂ acc, J vals.length m₂ H₂ acc → ∀ a, a ∉ H₂.keys → CEND C A fx use a m₁ ((a, acc) :: H₂) Q X)) X) :
    AW C A fx (comprehension e scope fx.env pos newAcc false first use) m H Q X := by
  have SO := ScOk.of hb
  intro s S
  have hfree : ∀ x, (x, NameKind.free) ∈ scope.names → fx.env.kindOf x = some .cell := fun x hx => by unfold Env.kindOf; rw [hsc]; exact SO.free x hx
  have hg := hok g List.mem_cons_self
  refine wpAny_comprehension_free hcl (fun x => hg.folded _ x) (closureFor_eq fun x hx => S.cellW x (hfree x hx)) SO.kind (fun x hx hk => ?_) ?_
  · obtain ⟨n, k⟩ := x
    dsimp only at hk ⊢
    subst hk
    exact mem_lookup SO.nodup hx
  refine wpAny_mono (h s S) (fun x s₁ h₁ => ?_) fun _ _ x => x
  obtain ⟨m₁, H₁, S₁, E₁, vals, P, hI, J, j0, jP, turn, done⟩ := h₁
  refine hI x rfl s₁ _ _ S₁ fun I h₂ tk Pos it hnewI hsm p0 hk₂ => ?_
  obtain ⟨S₂, E₂⟩ := S₁.keeps (s' := { s₁ with heap := h₂, toks := tk }) hk₂
  refine hnew _ _ _ ?_
  obtain ⟨oI, hoI⟩ := it.there _ _ p0
  have hoI : h₂.get? I = some oI := hoI
  have hID : I ≠ h₂.objs.size := fun q => Nat.lt_irrefl _ (q ▸ Heap.lt_size hoI)
  have hpush : ∀ b o, h₂.get? b = some o → (h₂.push o₀).get? b = some o := fun b o e => Heap.get?_push_of_some _ e
  obtain ⟨S₃, E₃⟩ := S₂.keeps (s' := { s₁ with heap := h₂.push o₀, toks := tk }) hpush
  have hszD : (h₂.push o₀).objs.size = h₂.objs.size + 1 := Heap.size_push ..
  have hD₁ : s₁.heap.get? h₂.objs.size = none := by
    cases q : s₁.heap.get? h₂.objs.size with
    | none => rfl
    | some o => exact absurd (Heap.lt_size (hk₂ _ _ q)) (Nat.lt_irrefl _)
  have hoD : (h₂.push o₀).get? h₂.objs.size = some o₀ := Heap.get?_push_size _ hf₀
  refine comp_newEnv ?_
  obtain ⟨S₄, CF, hW, hC⟩ := S₃.comp (scope := scope) (mf := freeLo scope m₁) SO.kind hfree (fun x hx => by rw [hsc] at hx; exact rel_cell hx) (fun x v hv => by rw [hsc]; exact freeLo_ok SO hv) rfl rfl
  generalize hfx : (⟨({ scope := relabel scope fx.env, locals := (h₂.push o₀).objs.size, globals := fx.env.globals, cells := cellsFrom ((h₂.push o₀).objs.size + 1) scope.names (closL fx.env.cells scope.names []), qual := fx.env.qual, func := none, code := fx.env.code, frame := fx.env.frame, builtins := fx.env.builtins } : Env), _⟩ : Fx) = fx' at S₄ CF hW hC
  have hloc : fx'.env.locals = (h₂.push o₀).objs.size := by rw [← hfx]
  have henv : ({ scope := relabel scope fx.env, locals := (h₂.push o₀).objs.size, globals := fx.env.globals, cells := cellsFrom ((h₂.push o₀).objs.size + 1) scope.names (closL fx.env.cells scope.names []), qual := fx.env.qual, func := none, code := fx.env.code, frame := fx.env.frame, builtins := fx.env.builtins } : Env) = fx'.env := by rw [← hfx]
  have k4 : ∀ b o, (h₂.push o₀).get? b = some o → (pushCells ((h₂.push o₀).push { cls := .type "dict", data := .dict #[] }) scope.names).get? b = some o := fun b o e => pushCells_keeps _ _ _ _ (Heap.get?_push_of_some _ e)
  have FD : Off C A fx' h₂.objs.size := Off.comp S₁ hD₁ (by rw [hszD]; exact Nat.lt_succ_self _) hW hC
  have FI : Off C A fx' I := Off.comp S₁ hnewI (by rw [hszD]; exact Nat.lt_succ_of_lt (Heap.lt_size hoI)) hW hC
  have E₄ : Ext A fx' H₁ s₁ H₁ { s₁ with heap := pushCells ((h₂.push o₀).push { cls := .type "dict", data := .dict #[] }) scope.names, toks := tk } :=
    ⟨fun b hb => .inl hb, fun b o e _ _ => ⟨o.slots, k4 b o (hpush b o (hk₂ b o e)), fun _ => rfl⟩, S₄.apart⟩
  have hDH : h₂.objs.size ∉ H₁.keys := none_notKey S₁ hD₁
  have hrun := comp_code (s₁ := s₁) (D := h₂.objs.size) (ZK := fun _ _ => False) (J := J) (acc := acc₀) he (d := 0) (by rw [hcl]; rfl) hg (fun g' h' => (hok g' (List.mem_cons_of_mem _ h')).async) FD hD₁ ⟨fun _ _ h => h.elim, fun _ _ h => h.elim, fun _ _ h => h.elim⟩ it FI (fun o e => by rw [hnewI] at e; cases e) hID (fun _ _ h => h.elim)
    (gens_run (H₁ := H₁) he FD hD₁ gs 1 (by rw [hcl]; rfl) fun g' h' => hok g' (List.mem_cons_of_mem _ h')) jP (turn fx' CF (by rw [CF.sc, hsc])) ⟨⟨S₄, E₄, hDH, o₀, k4 _ _ hoD, hr₀⟩, fun _ _ h => h.elim⟩ (none_notKey S₁ hnewI)
    (it.keep _ _ _ p0 fun o e => k4 _ _ (hpush _ _ e)) j0
  dsimp only
  rw [henv]
  refine codeAny_mono hrun fun r s' hr => ?_
  obtain ⟨rfl, m', H', acc', ⟨⟨S', E', hDH', oD, hoD', hrD⟩, _⟩, jn⟩ := hr
  have hk₁ : ∀ b o, s₁.heap.get? b = some o → b < (h₂.push o₀).objs.size := fun b o e => by rw [hszD]; exact Nat.lt_succ_of_lt (Heap.lt_size (hk₂ b o e))
  obtain ⟨S₅, E₅⟩ := S₁.upd (H' := H') (s' := s') (fun b o e hn => E'.hid b o e hn fun hm => Nat.lt_irrefl _ (Nat.lt_of_lt_of_le (hk₁ b o e) (hW b hm))) S'.cells
    E'.fresh S'.nodup S'.gens (S'.os.trans S₁.os.symm)
  have hsmD : sysModules < h₂.objs.size := S₂.low_lt S₂.base
  obtain ⟨S₆, E₆⟩ := S₅.adopt (Off.of S₁ hD₁) hD₁ E₅ hDH' hsmD hoD' hrD
  have hL₁ : s₁.heap.get? (h₂.push o₀).objs.size = none := by
    cases q : s₁.heap.get? (h₂.push o₀).objs.size with
    | none => rfl
    | some o => exact absurd (hk₁ _ _ q) (Nat.lt_irrefl _)
  have FL := Off.of S₁ hL₁
  have hLW : (h₂.push o₀).objs.size ∈ fx'.W := hloc ▸ S'.locW
  have hLH : (h₂.push o₀).objs.size ∉ AH.keys ((h₂.objs.size, acc') :: H') := fun hm => by
    rcases List.mem_cons.mp hm with e | hm
    · rw [hszD] at e; exact absurd e (Nat.succ_ne_self _)
    · exact S'.apart _ hLW hm
  obtain ⟨mr, hns⟩ := S'.loc
  rw [hloc] at hns
  have hend := done m' H' acc' jn h₂.objs.size hDH'
  cases use with
  | none =>
    refine ⟨mr, hns, fun h' hs' => ?_⟩
    obtain ⟨S₇, E₇⟩ := S₆.aside FL (fun o e => by rw [hL₁] at e; cases e) E₆ hLH (s' := { s' with heap := h' }) fun b o hb e => (hs'.2 b hb).trans e
    exact ⟨m₁, _, S₇, E₁.trans E₇, hend⟩
  | some u =>
    refine wpAny_mono (hend s' S₆) (fun _ s'' h'' => ?_) fun _ _ h'' => ?_
    · obtain ⟨m₈, H₈, S₈, E₈, q₈⟩ := h''
      obtain ⟨oL, es, ep, hoL, rest⟩ := hns
      obtain ⟨hoL', hLH₈⟩ := E₈.kept S₆ hoL hLH FL.W FL.frame
      refine ⟨mr, ⟨oL, es, ep, hoL', rest⟩, fun h' hs' => ?_⟩
      obtain ⟨S₉, E₉⟩ := S₈.aside FL (fun o e => by rw [hL₁] at e; cases e) (E₆.trans E₈) hLH₈ (s' := { s'' with heap := h' }) fun b o hb e => (hs'.2 b hb).trans e
      exact ⟨m₈, H₈, S₉, E₁.trans E₉, q₈⟩
    · obtain ⟨_, _, _, _, z⟩ := h''; exact z.elim
end
end Mine

namespace Mine
open PySem PySem.W PyProof.Rows
open Sem (wp)

section
variable {α : Type} {C : Cfg} {A A' : Around} {fx fx' : Fx} {m m' m₁ : Lo} {H H' H₁ : AH} {X : Value → Lo → AH → Prop} {K : Frag} {s s' s₁ : Shared}

theorem acc_list : OR C { cls := .type "list", data := .seq ([] : List Value).toArray } (.list []) := ⟨rfl, ⟨rfl, rfl⟩, _, _, rfl, rfl⟩
theorem acc_dict : OR C { cls := .type "dict", data := .dict #[] } (.dict [] 0) := ⟨⟨rfl, rfl, rfl⟩, _, rfl, fun e he => by simp at he, List.nodup_nil, [], Pairs.nil, rfl⟩
theorem mk_list {M : Model} (s : Shared) (Q : Value → Shared → Prop) (E : Value → Shared → Prop) (h : Q (.ref s.heap.objs.size) { s with heap := s.heap.push { cls := .type "list", data := .seq ([] : List Value).toArray } }) : wpAny M A (newList []) Q E s :=
  wpAny_newObj_type h
theorem mk_dict {M : Model} (s : Shared) (Q : Value → Shared → Prop) (E : Value → Shared → Prop) (h : Q (.ref s.heap.objs.size) { s with heap := s.heap.push { cls := .type "dict", data := .dict #[] } }) : wpAny M A newDict Q E s :=
  wpAny_newObj_type h

noncomputable def TURNS (C : Cfg) (A : Around) (fx : Fx) (e : PySem.Expr) (scope outer : Scope) (g : Comprehension) (gs : List Comprehension) (x : Value) (acc₀ : AO) (m₁ : Lo) (H₁ : AH) (fin : AH → AO → Addr → Prop) : Prop :=
  ∃ vals P, ITR C A fx x m₁ H₁ vals P ∧ ∃ J : Nat → Lo → AH → AO → Prop, J 0 (freeLo scope m₁) H₁ acc₀ ∧ (∀ i m H acc, J i m H acc → P H) ∧
      (∀ fx', CompFx fx scope fx' → fx'.env.scope = relS scope outer → ∀ i v m H acc, vals[i]? = some v → J i m H acc →
        ASG C A fx' g.target v m H (fun m₂ H₂ => TST C A fx' g.ifs m₂ H₂ (fun ok m₃ H₃ => if ok = true then GENS C A fx' e gs m₃ H₃ acc (J (i + 1)) else J (i + 1) m₃ H₃ acc) noX) noX) ∧
      (∀ m₂ H₂ acc, J vals.length m₂ H₂ acc → ∀ a, a ∉ H₂.keys → fin H₂ acc a)

theorem firstIter_eq (g : Comprehension) (gs : List Comprehension) (env : Env) : firstIter (g :: gs) env = eval g.iter env := by cases g; rfl

theorem ev_listcomp {elt : PySem.Expr} {g : Comprehension} {gs : List Comprehension} {scope outer : Scope} {pos : Pos} {Q : Value → Lo → AH → Prop} (hsc : fx.env.scope = outer)
    (h : EV C A fx g.iter m H (fun x m₁ H₁ => TURNS C A fx (.ListComp elt (g :: gs) scope pos) scope outer g gs x (.list []) m₁ H₁ (fun H₂ acc a => Q (.ref a) m₁ ((a, acc) :: H₂))) X)
    (hok : ∀ g' ∈ g :: gs, GOK g') (hb : scOkB scope outer = true := by rfl) : EV C A fx (.ListComp elt (g :: gs) scope pos) m H Q X := by
  show AW C A fx (eval _ _) m H _ X
  have hf : firstAsync (g :: gs) = false := by
    obtain ⟨a, b, c, d⟩ := g
    have := (hok _ List.mem_cons_self).async
    dsimp only at this
    subst this
    rfl
  rw [eval_ListComp, hf, firstIter_eq]
  exact aw_comp (use := none) (Q := fun v => Q (er v)) (.inl ⟨_, _, _, _, rfl⟩) rfl hok hsc hb acc_list rfl mk_list h
theorem ev_dictcomp {k v : PySem.Expr} {g : Comprehension} {gs : List Comprehension} {scope outer : Scope} {pos : Pos} {Q : Value → Lo → AH → Prop} (hsc : fx.env.scope = outer)
    (h : EV C A fx g.iter m H (fun x m₁ H₁ => TURNS C A fx (.DictComp k v (g :: gs) scope pos) scope outer g gs x (.dict [] 0) m₁ H₁ (fun H₂ acc a => Q (.ref a) m₁ ((a, acc) :: H₂))) X)
    (hok : ∀ g' ∈ g :: gs, GOK g') (hb : scOkB scope outer = true := by rfl) : EV C A fx (.DictComp k v (g :: gs) scope pos) m H Q X := by
  show AW C A fx (eval _ _) m H _ X
  have hf : firstAsync (g :: gs) = false := by
    obtain ⟨a, b, c, d⟩ := g
    have := (hok _ List.mem_cons_self).async
    dsimp only at this
    subst this
    rfl
  rw [arm_eval_DictComp, hf]
  dsimp only
  rw [firstIter_eq]
  exact aw_comp (use := none) (Q := fun v => Q (er v)) (.inr ⟨_, _, _, _, _, rfl⟩) rfl hok hsc hb acc_dict rfl mk_dict h
theorem ex_listcomp {x : PySem.Str} {px spos : Pos} {elt : PySem.Expr} {g : Comprehension} {gs : List Comprehension} {scope outer : Scope} {pos : Pos} {Q : Flow → Lo → AH → Prop} (hsc : fx.env.scope = outer) (hx : Own fx x)
    (hs : swapsWith (.ListComp elt (g :: gs) scope pos) (some (.Name x px)) spos.line fx.env = pure true)
    (h : EV C A fx g.iter m H (fun x' m₁ H₁ => TURNS C A fx (.ListComp elt (g :: gs) scope pos) scope outer g gs x' (.list []) m₁ H₁ (fun H₂ acc a => Q .next (m₁.put x (.ref a)) ((a, acc) :: H₂))) X)
    (hok : ∀ g' ∈ g :: gs, GOK g') (hb : scOkB scope outer = true := by rfl) : EX C A fx (.Assign [.Name x px] (.ListComp elt (g :: gs) scope pos) spos) m H Q X := by
  show AW C A fx (exec _ _) m H _ X
  have hf : firstAsync (g :: gs) = false := by
    obtain ⟨a, b, c, d⟩ := g
    have := (hok _ List.mem_cons_self).async
    dsimp only at this
    subst this
    rfl
  rw [exec_Assign_Name_used _ _ _ _ hs]
  refine aw_bind (aw_standAt ?_)
  show AW C A fx ((do let _ ← comprehension (.ListComp elt (g :: gs) scope pos) scope fx.env (firstIterPos (g :: gs) pos) (newList []) (firstAsync (g :: gs)) (firstIter (g :: gs) fx.env) (some (assign (.Name x px) fx.env))) >>= fun _ => pure Flow.next) m H _ X
  rw [hf, firstIter_eq]
  have h' : AW C A fx (eval g.iter fx.env) m H (fun v' m₁ H₁ => TURNS C A fx (.ListComp elt (g :: gs) scope pos) scope outer g gs (er v') (.list []) m₁ H₁ (fun H₂ acc a => Q .next (m₁.put x (.ref a)) ((a, acc) :: H₂))) X := h
  refine aw_bind (aw_bind (aw_mono (aw_comp (use := some (assign (.Name x px) fx.env)) (Q := fun _ m₁ H₁ => Q .next m₁ H₁) (.inl ⟨_, _, _, _, rfl⟩) rfl hok hsc hb acc_list rfl mk_list (aw_mono h' (fun x m₁ H₁ h₁ => ?_) fun _ _ _ x => x)) (fun _ _ _ q => aw_pure (aw_pure q)) fun _ _ _ x => x))
  obtain ⟨vals, P, h1, J, h2, h3, h4, h5⟩ := h₁
  refine ⟨vals, P, h1, J, h2, h3, h4, fun m₂ H₂ acc j a ha => ?_⟩
  exact asg_name hx (h5 m₂ H₂ acc j a ha) _ rfl
theorem ex_dictcomp {x : PySem.Str} {px spos : Pos} {k v : PySem.Expr} {g : Comprehension} {gs : List Comprehension} {scope outer : Scope} {pos : Pos} {Q : Flow → Lo → AH → Prop} (hsc : fx.env.scope = outer) (hx : Own fx x)
    (hs : swapsWith (.DictComp k v (g :: gs) scope pos) (some (.Name x px)) spos.line fx.env = pure true)
    (h : EV C A fx g.iter m H (fun x' m₁ H₁ => TURNS C A fx (.DictComp k v (g :: gs) scope pos) scope outer g gs x' (.dict [] 0) m₁ H₁ (fun H₂ acc a => Q .next (m₁.put x (.ref a)) ((a, acc) :: H₂))) X)
    (hok : ∀ g' ∈ g :: gs, GOK g') (hb : scOkB scope outer = true := by rfl) : EX C A fx (.Assign [.Name x px] (.DictComp k v (g :: gs) scope pos) spos) m H Q X := by
  show AW C A fx (exec _ _) m H _ X
  have hf : firstAsync (g :: gs) = false := by
    obtain ⟨a, b, c, d⟩ := g
    have := (hok _ List.mem_cons_self).async
    dsimp only at this
    subst this
    rfl
  rw [exec_Assign_Name_used _ _ _ _ hs]
  refine aw_bind (aw_standAt ?_)
  show AW C A fx ((do let _ ← comprehension (.DictComp k v (g :: gs) scope pos) scope fx.env (firstIterPos (g :: gs) pos) newDict (firstAsync (g :: gs)) (firstIter (g :: gs) fx.env) (some (assign (.Name x px) fx.env))) >>= fun _ => pure Flow.next) m H _ X
  rw [hf, firstIter_eq]
  have h' : AW C A fx (eval g.iter fx.env) m H (fun v' m₁ H₁ => TURNS C A fx (.DictComp k v (g :: gs) scope pos) scope outer g gs (er v') (.dict [] 0) m₁ H₁ (fun H₂ acc a => Q .next (m₁.put x (.ref a)) ((a, acc) :: H₂))) X := h
  refine aw_bind (aw_bind (aw_mono (aw_comp (use := some (assign (.Name x px) fx.env)) (Q := fun _ m₁ H₁ => Q .next m₁ H₁) (.inr ⟨_, _, _, _, _, rfl⟩) rfl hok hsc hb acc_dict rfl mk_dict (aw_mono h' (fun x m₁ H₁ h₁ => ?_) fun _ _ _ x => x)) (fun _ _ _ q => aw_pure (aw_pure q)) fun _ _ _ x => x))
  obtain ⟨vals, P, h1, J, h2, h3, h4, h5⟩ := h₁
  refine ⟨vals, P, h1, J, h2, h3, h4, fun m₂ H₂ acc j a ha => ?_⟩
  exact asg_name hx (h5 m₂ H₂ acc j a ha) _ rfl
theorem swaps_eq {value : PySem.Expr} {x : PySem.Str} {px : Pos} {line : Nat} {scope sc : Scope} {b : Bool} (hv : (∃ a g p, value = .ListComp a g scope p) ∨ ∃ a c g p, value = .DictComp a c g scope p) (hsc : fx.env.scope = sc)
    (hb : (sc.kind == .function && sc.names.lookup x == some .local && px.line == value.pos.line && !(scope.names.any fun (n, k) => n == x && (k == .local || k == .cell))) = b) (hbk : fx.env.blockKind = fx.env.scope.kind) :
    swapsWith value (some (.Name x px)) line fx.env = pure b := by
  subst hb
  rcases hv with ⟨a, g, p, rfl⟩ | ⟨a, c, g, p, rfl⟩
  · unfold swapsWith
    simp only [hbk, Env.kindOf, hsc]
  · unfold swapsWith
    simp only [hbk, Env.kindOf, hsc]
end
end Mine

namespace Mine
open PySem PySem.W PyProof.Rows
open Sem (wp)

section
variable {α : Type} {C : Cfg} {A A' : Around} {fx fx' : Fx} {m m' m₁ : Lo} {H H' H₁ : AH} {X : Value → Lo → AH → Prop} {K : Frag} {s s' s₁ : Shared} {Q : Value → Lo → AH → Prop}

theorem er1 {vs : List Value} {x : Value} (h : vs.map er = [x]) : ∃ a, vs = [a] ∧ er a = x := by
  rcases vs with _ | ⟨a, _ | ⟨b, r⟩⟩ <;> simp at h
  exact ⟨a, rfl, h⟩
theorem er2 {vs : List Value} {x y : Value} (h : vs.map er = [x, y]) : ∃ a b, vs = [a, b] ∧ er a = x ∧ er b = y := by
  rcases vs with _ | ⟨a, _ | ⟨b, _ | ⟨c, r⟩⟩⟩ <;> simp at h
  exact ⟨a, b, rfl, h.1, h.2⟩
theorem er3 {vs : List Value} {x y z : Value} (h : vs.map er = [x, y, z]) : ∃ a b c, vs = [a, b, c] ∧ er a = x ∧ er b = y ∧ er c = z := by
  rcases vs with _ | ⟨a, _ | ⟨b, _ | ⟨c, _ | ⟨d, r⟩⟩⟩⟩ <;> simp at h
  exact ⟨a, b, c, rfl, h.1, h.2.1, h.2.2⟩

/-! ### methods of the built-in kinds -/
theorem gm_list {l : Addr} {xs : List Value} {n : PySem.Str} {id : String} {Q : Value → List Value → Lo → AH → Prop} (hl : (l, AO.list xs) ∈ H) (slot : Slot "list" n id) (hty : typeOf (.builtin id) = pure (.type "method_descriptor")) (h : Q (.builtin id) [.ref l] m H) :
    GM C A fx (.ref l) n m H Q X := fun a pl ha => by
  obtain rfl := er_eq_ref ha
  intro s S
  obtain ⟨vs, k, h1, h2⟩ := S.isL hl
  exact getMethod_builtin (T := "list") ⟨_, h1, rfl⟩ PySem.F.plainAttrs_list slot hty (fun b e => by cases e; exact ⟨_, h1, rfl⟩) ⟨m, H, S, Ext.refl' S, h⟩
theorem gm_dict {d : Addr} {kvs : List (Int × Value)} {ep : Nat} {n : PySem.Str} {id : String} {Q : Value → List Value → Lo → AH → Prop} (hd : (d, AO.dict kvs ep) ∈ H) (slot : Slot "dict" n id) (hty : typeOf (.builtin id) = pure (.type "method_descriptor")) (h : Q (.builtin id) [.ref d] m H) :
    GM C A fx (.ref d) n m H Q X := fun a pl ha => by
  obtain rfl := er_eq_ref ha
  intro s S
  obtain ⟨o, ho, hx, _⟩ := S.get hd
  exact getMethod_builtin (T := "dict") ⟨o, ho, hx.1⟩ PySem.F.plainAttrs_dict slot hty (fun b e => by cases e; exact ⟨o, ho, hx.2.1⟩) ⟨m, H, S, Ext.refl' S, h⟩
theorem gm_set {d : Addr} {xs : List Int} {n : PySem.Str} {id : String} {Q : Value → List Value → Lo → AH → Prop} (hd : (d, AO.set xs) ∈ H) (slot : Slot "set" n id) (hty : typeOf (.builtin id) = pure (.type "method_descriptor")) (h : Q (.builtin id) [.ref d] m H) :
    GM C A fx (.ref d) n m H Q X := fun a pl ha => by
  obtain rfl := er_eq_ref ha
  intro s S
  obtain ⟨o, ho, hx', _⟩ := S.get hd
  exact getMethod_builtin (T := "set") ⟨o, ho, hx'.1⟩ PySem.F.plainAttrs_set slot hty (fun b e => by cases e; exact ⟨o, ho, hx'.2.1⟩) ⟨m, H, S, Ext.refl' S, h⟩

/-! ### lists -/
theorem write_list {l : Addr} {vs : Array Value} {n : Nat} {xs : List Value} (S : St C A fx m H s) (hl : (l, AO.list xs) ∈ H) (h1 : IsL s.heap l vs n) (f : Array Value → Array Value) {ys : List Value} (hy : (f vs).toList.map er = ys) (tk : Nat) :
    St C A fx m (H.put l (.list ys)) { s with heap := s.heap.update l (Obj.mapSeq f), toks := tk } ∧ Ext A fx H s (H.put l (.list ys)) { s with heap := s.heap.update l (Obj.mapSeq f), toks := tk } :=
  S.write hl (Heap.SameBut.update ..) (h1.update f) ⟨rfl, ⟨rfl, rfl⟩, _, _, rfl, hy⟩
theorem call_append {l : Addr} {xs : List Value} {x : Value} (hl : (l, AO.list xs) ∈ H) (hz : xs.length ≤ 1000000) (h : Q .none m (H.put l (.list (xs ++ [x])))) : CALL C A fx (.builtin "list.append") [.ref l, x] m H Q X := fun g vs hg hvs => by
  obtain rfl := er_eq_builtin hg
  obtain ⟨a, b, rfl, ha, hb⟩ := er2 hvs
  obtain rfl := er_eq_ref ha
  intro s S
  obtain ⟨vs, n, h1, h2⟩ := S.isL hl
  refine call_meets PySem.F.slot_list_append ⟨_, h1, rfl⟩ PySem.F.entry_list_append (PySem.F.args_list_append_2 _ _) (list_append l vs n b (by rw [size_of_er h2, sizeLine_eq]; omega)) ⟨h1, ?_⟩
  obtain ⟨S', E'⟩ := write_list S hl h1 (·.push b) (ys := xs ++ [x]) (by rw [Array.toList_push, List.map_append, h2]; simp [hb]) s.toks
  exact ⟨m, _, S', E', h⟩
theorem call_clear {l : Addr} {xs : List Value} (hl : (l, AO.list xs) ∈ H) (hz : xs.length ≤ 1000000) (h : Q .none m (H.put l (.list []))) : CALL C A fx (.builtin "list.clear") [.ref l] m H Q X := fun g vs hg hvs => by
  obtain rfl := er_eq_builtin hg
  obtain ⟨a, rfl, ha⟩ := er1 hvs
  obtain rfl := er_eq_ref ha
  intro s S
  obtain ⟨vs, n, h1, h2⟩ := S.isL hl
  refine call_meets PySem.F.slot_list_clear ⟨_, h1, rfl⟩ PySem.F.entry_list_clear (PySem.F.args_list_clear_1 _) (AutoSeq1.list_clear_list_0 l vs n (by rw [size_of_er h2, sizeLine_eq]; omega)) ⟨h1, ?_⟩
  obtain ⟨S', E'⟩ := write_list S hl h1 (fun _ => #[]) (ys := []) rfl s.toks
  exact ⟨m, _, S', E', h⟩
theorem call_pop {l : Addr} {xs : List Value} {x : Value} (hl : (l, AO.list (xs ++ [x])) ∈ H) (hz : xs.length < 1000000) (h : Q x m (H.put l (.list xs))) : CALL C A fx (.builtin "list.pop") [.ref l] m H Q X := fun g vs hg hvs => by
  obtain rfl := er_eq_builtin hg
  obtain ⟨a, rfl, ha⟩ := er1 hvs
  obtain rfl := er_eq_ref ha
  intro s S
  obtain ⟨vs, n, h1, h2⟩ := S.isL hl
  have hsz := size_of_er h2
  rw [List.length_append, List.length_singleton] at hsz
  obtain ⟨r, e1, e2⟩ := er_get (k := xs.length) (v := x) h2 (by simp)
  refine call_meets PySem.F.slot_list_pop ⟨_, h1, rfl⟩ PySem.F.entry_list_pop (PySem.F.args_list_pop_1 _) (MeetsSeq.list_pop_last l vs n r (by rw [hsz]; exact e1) (by rw [hsz, sizeLine_eq]; omega)) ⟨h1, ?_⟩
  obtain ⟨S', E'⟩ := write_list S hl h1 (fun xs => xs.eraseIdxIfInBounds (vs.size - 1)) (ys := xs) (by
    obtain ⟨l', rfl⟩ : ∃ l', vs = List.toArray l' := ⟨vs.toList, rfl⟩
    simp only [List.eraseIdxIfInBounds_toArray, List.size_toArray] at hsz ⊢
    have h2' : l'.map er = xs ++ [x] := h2
    rw [List.eraseIdx_length_sub_one, List.map_dropLast, h2', List.dropLast_concat]) s.toks
  exact ⟨m, _, S', E', by show Q (er r) m _; rw [e2]; exact h⟩
theorem bo_cat {l b : Addr} {xs ys : List Value} (hl : (l, AO.list xs) ∈ H) (hb : (b, AO.list ys) ∈ H) (hz : xs.length + ys.length ≤ 1000000) (h : ∀ a, a ∉ H.keys → Q (.ref a) m ((a, .list (xs ++ ys)) :: H)) : BO C A fx .Add (.ref l) (.ref b) m H Q X := fun a a' ha ha' => by
  obtain rfl := er_eq_ref ha
  obtain rfl := er_eq_ref ha'
  intro s S
  obtain ⟨vs, n, h1, h2⟩ := S.isL hl
  obtain ⟨vs', n', h3, h4⟩ := S.isL hb
  obtain ⟨S', E'⟩ := S.push (o := { cls := .type "list", data := .seq (vs ++ vs') }) (ao := .list (xs ++ ys)) ⟨rfl, ⟨rfl, rfl⟩, _, _, rfl, by simp [h2, h4]⟩
  exact PySem.P.add_list h1 h3 ⟨m, _, S', E', h _ fun hm => Nat.lt_irrefl _ (S.key_lt hm)⟩ (by rw [size_of_er h2, size_of_er h4, sizeLine_eq]; omega)

/-! ### displays -/
theorem ev_list {es : List PySem.Expr} {pos : Pos} (h : EVS C A fx es pos m H (fun vs m₁ H₁ => vs.length ≤ 1000000 ∧ ∀ a, a ∉ H₁.keys → Q (.ref a) m₁ ((a, .list vs) :: H₁)) X) : EV C A fx (.List es pos) m H Q X := by
  show AW C A fx (eval _ _) m H _ X
  rw [arm_eval_List]
  exact aw_bind (aw_standAt (aw_bind (aw_mono h (fun vs m₁ H₁ h₁ => aw_newList (by simpa using h₁.1) h₁.2) fun _ _ _ x => x)))
theorem ev_tuple {es : List PySem.Expr} {x1 : _} {pos : Pos} (h : EVS C A fx es pos m H (fun vs m₁ H₁ => vs.length ≤ 1000000 ∧ ∀ a, a ∉ H₁.keys → Q (.ref a) m₁ ((a, .tup vs) :: H₁)) X) : EV C A fx (.Tuple es x1 pos) m H Q X := by
  show AW C A fx (eval _ _) m H _ X
  rw [arm_eval_Tuple]
  exact aw_bind (aw_standAt (aw_bind (aw_mono h (fun vs m₁ H₁ h₁ => aw_newTuple (by simpa using h₁.1) h₁.2) fun _ _ _ x => x)))
theorem ev_dict0 {pos : Pos} (h : ∀ a, a ∉ H.keys → Q (.ref a) m ((a, .dict [] 0) :: H)) (he : eval (.Dict [] [] pos) fx.env = (standAt pos >>= fun _ => dictDisplay []) := by rfl) : EV C A fx (.Dict [] [] pos) m H Q X := by
  show AW C A fx (eval _ _) m H _ X
  rw [he]
  refine aw_bind (aw_standAt ?_)
  unfold dictDisplay
  exact aw_new (ao := .dict [] 0) acc_dict rfl (by show _ ≤ _; simp) h

/-! ### dicts -/
theorem intKey {k : Int} {t : Tok} : (intKind C.prog C.w).is k (.int k t) = true := by simp [intKind, Value.isInt]
theorem call_get {d : Addr} {kvs : List (Int × Value)} {ep : Nat} {k : Int} (hd : (d, AO.dict kvs ep) ∈ H) (h : Q ((dval kvs k).getD .none) m H) : CALL C A fx (.builtin "dict.get") [.ref d, vI k] m H Q X := fun g vs hg hvs => by
  obtain rfl := er_eq_builtin hg
  obtain ⟨a, b, rfl, ha, hb⟩ := er2 hvs
  obtain rfl := er_eq_ref ha
  obtain ⟨t, rfl⟩ := er_eq_int hb
  intro s S
  obtain ⟨raw, h1, h2⟩ := S.dictAt hd
  refine call_meetsIn PySem.F.slot_dict_get h1.dictOf.typeIs PySem.F.entry_dict_get (PySem.F.args_dict_get_2 _ _) (meets_dict_get (intKind C.prog C.w) d intKey (S.notMods (mem_keys hd))) ⟨_, h1.dictOf.mapOf, ?_⟩
  refine ⟨m, H, (S.toks _).1, (S.toks _).2, ?_⟩
  show Q (er _) m H
  have : er ((valueAt raw k).getD .none) = (dval kvs k).getD .none := by
    rw [← valueAt_er h2 k]
    cases valueAt raw k <;> rfl
  rw [this]; exact h
theorem si_dict {d : Addr} {kvs : List (Int × Value)} {ep : Nat} {k : Int} {v : Value} {Q : Lo → AH → Prop} (hd : (d, AO.dict kvs ep) ∈ H) (hz : kvs.length ≤ 1000000) (h : ∀ ep', Q m (H.put d (.dict (stored kvs k v) ep'))) : SI C A fx (.ref d) (vI k) v m H Q X := fun a b c ha hb hc => by
  obtain rfl := er_eq_ref ha
  obtain ⟨t, rfl⟩ := er_eq_int hb
  intro s S
  obtain ⟨raw, h1, h2⟩ := S.dictAt hd
  refine wpAny_setItem_pairs (knd := intKind C.prog C.w) intKey h1.dictOf (fun h' hd' hs => ?_) (by rw [raw_len h2, sizeLine_eq]; omega)
  obtain ⟨o', ep', ho', hr'⟩ := or_dict hd' (stored_er h2 k c)
  rw [hc] at hr'
  obtain ⟨S', E'⟩ := S.write (s' := { s with heap := h', toks := s.toks + 1 }) hd hs ho' hr'
  exact ⟨m, _, S', E', h ep'⟩
end
end Mine

namespace Mine
open PySem PySem.W PyProof.Rows
open Sem (wp)

section
variable {α : Type} {C : Cfg} {A A' : Around} {fx fx' : Fx} {m m' m₁ : Lo} {H H' H₁ : AH} {X : Value → Lo → AH → Prop} {K : Frag} {s s' s₁ : Shared} {Q : Value → Lo → AH → Prop}

noncomputable abbrev iv (ns : List Int) : List Value := ns.map vI
theorem intsAre_er : ∀ {vs : List Value} {ns : List Int}, vs.map er = iv ns → IntsAre vs ns
  | [], [], _ => .nil
  | [], _ :: _, h => by simp at h
  | _ :: _, [], h => by simp at h
  | v :: r, n :: ns, h => by
    simp only [List.map_cons, List.cons.injEq] at h
    obtain ⟨t, rfl⟩ := er_eq_int h.1
    exact .cons n t (intsAre_er h.2)
theorem er_intsAre : ∀ {vs : List Value} {ns : List Int}, IntsAre vs ns → vs.map er = iv ns
  | _, _, .nil => rfl
  | _, _, .cons n t h => by rw [List.map_cons, er_intsAre h]; rfl
theorem St.ints {l : Addr} {ns : List Int} (S : St C A fx m H s) (h : (l, AO.list (iv ns)) ∈ H) : ∃ vs : List Value, s.heap.IsList l vs.toArray ∧ IntsAre vs ns := by
  obtain ⟨vs, h1, h2⟩ := S.isList h
  exact ⟨vs.toList, by simpa using h1, intsAre_er h2⟩
theorem St.kept {tk : Nat} {h' : Heap} (S : St C A fx m H s) (hk : ∀ b o, s.heap.get? b = some o → h'.get? b = some o) : St C A fx m H { s with heap := h', toks := tk } ∧ Ext A fx H s H { s with heap := h', toks := tk } := S.keeps hk

/-! ### built-in functions -/
theorem call_len_l {l : Addr} {xs : List Value} (hl : (l, AO.list xs) ∈ H) (hz : xs.length ≤ 1000000) (h : Q (vI xs.length) m H) : CALL C A fx (.builtin "len") [.ref l] m H Q X := fun g vs hg hvs => by
  obtain rfl := er_eq_builtin hg
  obtain ⟨a, rfl, ha⟩ := er1 hvs
  obtain rfl := er_eq_ref ha
  intro s S
  obtain ⟨vs, h1, h2⟩ := S.isList hl
  refine PySem.Calls.call_len_list h1 (by rw [size_of_er h2]; omega) ⟨m, H, (S.toks _).1, (S.toks _).2, ?_⟩
  show Q (vI _) m H
  rw [size_of_er h2]; exact h
theorem call_len_t {l : Addr} {xs : List Value} (hl : (l, AO.tup xs) ∈ H) (hz : xs.length ≤ 1000000) (h : Q (vI xs.length) m H) : CALL C A fx (.builtin "len") [.ref l] m H Q X := fun g vs hg hvs => by
  obtain rfl := er_eq_builtin hg
  obtain ⟨a, rfl, ha⟩ := er1 hvs
  obtain rfl := er_eq_ref ha
  intro s S
  obtain ⟨vs, n, h1, h2⟩ := S.isT hl
  refine PySem.P.len_tuple h1 (by rw [size_of_er h2]; omega) ⟨m, H, (S.toks _).1, (S.toks _).2, ?_⟩
  show Q (vI _) m H
  rw [size_of_er h2]; exact h
theorem call_range {n : Int} (h : ∀ a, a ∉ H.keys → Q (.ref a) m ((a, .flds (.type "range") [vI 0, vI n, vI 1]) :: H)) : CALL C A fx (.type "range") [vI n] m H Q X := fun g vs hg hvs => by
  obtain rfl := er_eq_type hg
  obtain ⟨a, rfl, ha⟩ := er1 hvs
  obtain ⟨t, rfl⟩ := er_eq_int ha
  intro s S
  obtain ⟨S', E'⟩ := S.push (o := { cls := .type "range", data := .fields #[.int 0 s.toks, .int n t, .int 1 (s.toks + 1)] }) (ao := .flds (.type "range") [vI 0, vI n, vI 1]) ⟨rfl, ⟨rfl, rfl⟩, _, rfl, rfl⟩
  have S₂ := S'.toks (s.toks + 1 + 1)
  exact call_range_1 ⟨m, _, S₂.1, E'.trans S₂.2, h _ fun hm => Nat.lt_irrefl _ (S.key_lt hm)⟩
theorem call_sum {l : Addr} {ns : List Int} (hA : A.handled = none) (hl : (l, AO.list (iv ns)) ∈ H) (h : Q (vI ns.sum) m H) : CALL C A fx (.builtin "sum") [.ref l] m H Q X := fun g vs hg hvs => by
  obtain rfl := er_eq_builtin hg
  obtain ⟨a, rfl, ha⟩ := er1 hvs
  obtain rfl := er_eq_ref ha
  intro s S
  obtain ⟨vs, h1, h2⟩ := S.ints hl
  obtain ⟨xs, e⟩ := h2.allInts.items
  rw [e] at h1
  have hn : xs.toList.map (·.1) = ns := by rw [← nums_intItems, ← e]; exact h2.numsOf
  refine sum_intListG hA h1 fun h' tk t' hk => ⟨m, H, (S.kept hk).1, (S.kept hk).2, ?_⟩
  show Q (vI _) m H
  rw [preSum_eq, hn, List.take_of_length_le (by rw [← hn]; simp)]
  exact h
theorem call_max {l : Addr} {ns : List Int} (hA : A.handled = none) (hl : (l, AO.list (iv ns)) ∈ H) (hne : 0 < ns.length) (h : ∀ M, M ∈ ns → (∀ a, a ∈ ns → a ≤ M) → Q (vI M) m H) : CALL C A fx (.builtin "max") [.ref l] m H Q X := fun g vs hg hvs => by
  obtain rfl := er_eq_builtin hg
  obtain ⟨a, rfl, ha⟩ := er1 hvs
  obtain rfl := er_eq_ref ha
  intro s S
  obtain ⟨vs, h1, h2⟩ := S.ints hl
  obtain ⟨xs, e⟩ := h2.allInts.items
  rw [e] at h1
  have hn : xs.toList.map (·.1) = ns := by rw [← nums_intItems, ← e]; exact h2.numsOf
  have hsz : xs.size = ns.length := by rw [← hn]; simp
  refine max_intList hA h1 (by omega) fun v h' tk hv hk => ?_
  obtain ⟨t, rfl⟩ := intItems_at hv
  obtain ⟨h3, h4⟩ := argBest_gt (numAt xs) (xs.size - 1)
  refine ⟨m, H, (S.kept hk).1, (S.kept hk).2, h _ ?_ fun a ha => ?_⟩
  · rw [numAt_eq, hn]; exact PySem.getD_mem (by omega)
  · obtain ⟨j, hj, rfl⟩ := mem_getD ha
    have := h4 j (by omega)
    rwa [numAt_eq xs j, hn] at this
theorem call_min {l : Addr} {ns : List Int} (hA : A.handled = none) (hl : (l, AO.list (iv ns)) ∈ H) (hne : 0 < ns.length) (h : ∀ M, M ∈ ns → (∀ a, a ∈ ns → M ≤ a) → Q (vI M) m H) : CALL C A fx (.builtin "min") [.ref l] m H Q X := fun g vs hg hvs => by
  obtain rfl := er_eq_builtin hg
  obtain ⟨a, rfl, ha⟩ := er1 hvs
  obtain rfl := er_eq_ref ha
  intro s S
  obtain ⟨vs, h1, h2⟩ := S.ints hl
  obtain ⟨xs, e⟩ := h2.allInts.items
  rw [e] at h1
  have hn : xs.toList.map (·.1) = ns := by rw [← nums_intItems, ← e]; exact h2.numsOf
  have hsz : xs.size = ns.length := by rw [← hn]; simp
  refine min_intList hA h1 (by omega) fun v h' tk hv hk => ?_
  obtain ⟨t, rfl⟩ := intItems_at hv
  obtain ⟨h3, h4⟩ := argBest_lt (numAt xs) (xs.size - 1)
  refine ⟨m, H, (S.kept hk).1, (S.kept hk).2, h _ ?_ fun a ha => ?_⟩
  · rw [numAt_eq, hn]; exact PySem.getD_mem (by omega)
  · obtain ⟨j, hj, rfl⟩ := mem_getD ha
    have := h4 j (by omega)
    rwa [numAt_eq xs j, hn] at this
theorem sorted_push {l : Addr} {vs : List Value} {out : Array Value} {ns' : List Int} (S : St C A fx m H s) (a1 : IntsAre out.toList ns') : St C A fx m ((s.heap.objs.size + 1, .list (iv ns')) :: H) { s with heap := sortedAll s.heap vs out } ∧
    Ext A fx H s ((s.heap.objs.size + 1, .list (iv ns')) :: H) { s with heap := sortedAll s.heap vs out } ∧ s.heap.objs.size + 1 ∉ H.keys := by
  obtain ⟨e, he⟩ := sortedAll_at s.heap vs out
  have hn := none_of_le (h := s.heap) (b := s.heap.objs.size + 1) (Nat.le_succ _)
  obtain ⟨S', E'⟩ := S.new (s' := { s with heap := sortedAll s.heap vs out }) (ao := .list (iv ns')) hn (fun b o e => sortedAll_old e) he ⟨rfl, ⟨rfl, rfl⟩, _, _, rfl, er_intsAre a1⟩
  exact ⟨S', E', fun hm => Nat.lt_irrefl _ (Nat.lt_of_succ_lt (S.key_lt hm))⟩
theorem call_sorted {l : Addr} {ns : List Int} (hl : (l, AO.list (iv ns)) ∈ H) (h64 : ns.length < 64) (h : ∀ a ns', a ∉ H.keys → ns'.Perm ns → ns'.Pairwise (· ≤ ·) → Q (.ref a) m ((a, .list (iv ns')) :: H)) : CALL C A fx (.builtin "sorted") [.ref l] m H Q X := fun g vs hg hvs => by
  obtain rfl := er_eq_builtin hg
  obtain ⟨a, rfl, ha⟩ := er1 hvs
  obtain rfl := er_eq_ref ha
  intro s S
  obtain ⟨vs, h1, h2⟩ := S.ints hl
  refine sorted_ints h1 h2 (by rw [h2.length]; exact h64) fun out ns' a1 a2 a3 => ?_
  obtain ⟨S', E', hn⟩ := sorted_push (l := l) (vs := vs) S a1
  exact ⟨m, _, S', E', h _ ns' hn a2 a3⟩
theorem call_tuple {l : Addr} {xs : List Value} (hl : (l, AO.list xs) ∈ H) (hz : xs.length ≤ 1000000) (h : ∀ a, a ∉ H.keys → Q (.ref a) m ((a, .tup xs) :: H)) : CALL C A fx (.type "tuple") [.ref l] m H Q X := fun g vs hg hvs => by
  obtain rfl := er_eq_type hg
  obtain ⟨a, rfl, ha⟩ := er1 hvs
  obtain rfl := er_eq_ref ha
  intro s S
  obtain ⟨vs, h1, h2⟩ := S.isList hl
  refine call_tuple_list h1 (fun h' hk => ?_) (by rw [size_of_er h2, sizeLine_eq]; omega)
  obtain ⟨S', E'⟩ := S.kept (tk := s.toks) hk
  obtain ⟨S₂, E₂⟩ := S'.push (o := { cls := .type "tuple", data := .seq vs }) (ao := .tup xs) ⟨rfl, ⟨rfl, rfl⟩, _, _, rfl, h2⟩
  exact ⟨m, _, S₂, E'.trans E₂, h _ fun hm => Nat.lt_irrefl _ (S'.key_lt hm)⟩
theorem call_isinstance_tup {l : Addr} {xs : List Value} (hl : (l, AO.tup xs) ∈ H) (h : Q (.bool true) m H) : CALL C A fx (.builtin "isinstance") [.ref l, .type "tuple"] m H Q X := fun g vs hg hvs => by
  obtain rfl := er_eq_builtin hg
  obtain ⟨a, b, rfl, ha, hb⟩ := er2 hvs
  obtain rfl := er_eq_ref ha
  obtain rfl := er_eq_type hb
  intro s S
  obtain ⟨vs, n, h1, h2⟩ := S.isT hl
  exact IsiPair.tuple_tuple h1 rfl ⟨m, H, S, Ext.refl' S, h⟩

/-! ### truth of a list -/
theorem tr_list' {l : Addr} {xs : List Value} {Q : Bool → Lo → AH → Prop} (hl : (l, AO.list xs) ∈ H) (hz : xs.length ≤ 1000000) (h : Q (!xs.isEmpty) m H) : TR C A fx (.ref l) m H Q X := fun a ha => by
  obtain rfl := er_eq_ref ha
  intro s S
  obtain ⟨vs, h1, h2⟩ := S.isList hl
  refine wpAny_truthy_list h1 (by rw [size_of_er h2]; omega) ⟨m, H, (S.toks _).1, (S.toks _).2, ?_⟩
  have : vs.isEmpty = xs.isEmpty := by rw [← h2]; obtain ⟨l⟩ := vs; cases l <;> rfl
  rw [this]; exact h
theorem co_in_list {l : Addr} {ns : List Int} {k : Int} (hl : (l, AO.list (iv ns)) ∈ H) (h : Q (.bool (decide (k ∈ ns))) m H) : CO C A fx .In (vI k) (.ref l) m H Q X := fun a b ha hb => by
  obtain ⟨t, rfl⟩ := er_eq_int ha
  obtain rfl := er_eq_ref hb
  intro s S
  obtain ⟨vs, h1, h2⟩ := S.ints hl
  refine in_list_ints h1 h2 ⟨m, H, S, Ext.refl' S, ?_⟩
  show Q (.bool _) m H
  rw [show (ns.any (· == k)) = decide (k ∈ ns) from by rw [Bool.eq_iff_iff]; simp]
  exact h
theorem dval_isSome {kvs : List (Int × Value)} {k : Int} : (dval kvs k).isSome = decide (k ∈ kvs.map (·.1)) := by
  unfold dval
  induction kvs with
  | nil => rfl
  | cons kv r ih =>
    rw [List.find?_cons]
    by_cases h : kv.1 = k
    · simp [h]
    · rw [decide_eq_false h]
      simp only [Bool.false_eq_true, if_false, ih, List.map_cons, List.mem_cons]
      rw [Bool.eq_iff_iff]
      simp [Ne.symm h, eq_comm]
theorem co_in_dict {d : Addr} {kvs : List (Int × Value)} {ep : Nat} {k : Int} (hd : (d, AO.dict kvs ep) ∈ H) (h : Q (.bool (decide (k ∈ kvs.map (·.1)))) m H) : CO C A fx .In (vI k) (.ref d) m H Q X := fun a b ha hb => by
  obtain ⟨t, rfl⟩ := er_eq_int ha
  obtain rfl := er_eq_ref hb
  intro s S
  obtain ⟨raw, h1, h2⟩ := S.dictAt hd
  refine wpAny_in_of (knd := intKind C.prog C.w) intKey (S.notMods (mem_keys hd)) h1.dictOf.mapOf ⟨m, H, (S.toks _).1, (S.toks _).2, ?_⟩
  show Q (.bool _) m H
  have : (valueAt raw k).isSome = decide (k ∈ kvs.map (·.1)) := by rw [← dval_isSome, ← valueAt_er h2 k, Option.isSome_map]
  rw [this]; exact h
theorem co_eq_ints {l b : Addr} {ns ms : List Int} (hu : A.units + 64 < cLine) (hl : (l, AO.list (iv ns)) ∈ H) (hb : (b, AO.list (iv ms)) ∈ H) (h : Q (.bool (decide (ns = ms))) m H) : CO C A fx .Eq (.ref l) (.ref b) m H Q X := fun a a' ha ha' => by
  obtain rfl := er_eq_ref ha
  obtain rfl := er_eq_ref ha'
  intro s S
  obtain ⟨vs, h1, h2⟩ := S.ints hl
  obtain ⟨us, h3, h4⟩ := S.ints hb
  exact eq_intsK h1 h2 h3 h4 hu ⟨m, H, S, Ext.refl' S, h⟩
theorem co_ne_ints {l b : Addr} {ns ms : List Int} (hu : A.units + 64 < cLine) (hl : (l, AO.list (iv ns)) ∈ H) (hb : (b, AO.list (iv ms)) ∈ H) (h : Q (.bool (!decide (ns = ms))) m H) : CO C A fx .NotEq (.ref l) (.ref b) m H Q X := fun a a' ha ha' => by
  obtain rfl := er_eq_ref ha
  obtain rfl := er_eq_ref ha'
  intro s S
  obtain ⟨vs, h1, h2⟩ := S.ints hl
  obtain ⟨us, h3, h4⟩ := S.ints hb
  exact ne_intsK h1 h2 h3 h4 hu ⟨m, H, S, Ext.refl' S, h⟩
end
end Mine

namespace Mine
open PySem PySem.W PyProof.Rows
open Sem (wp)

section
variable {α : Type} {C : Cfg} {A A' : Around} {fx fx' : Fx} {m m' m₁ : Lo} {H H' H₁ : AH} {X : Value → Lo → AH → Prop} {K : Frag} {s s' s₁ : Shared} {Q : Value → Lo → AH → Prop}
variable {x dx cl f p : Addr} {fs : List (PySem.Str × Value)} {sl : List (Option Value)} {n : PySem.Str} {v : Value}

theorem St.inst (S : St C A fx m H s) (hx : (x, AO.inst cl (some dx) sl) ∈ H) (hd : (dx, AO.ns fs) ∈ H) : ∃ ox od, InstAt s.heap x ox cl (some od) ∧ ox.dict = some dx ∧ ox.slots.toList.map (Option.map er) = sl ∧ s.heap.get? dx = some od ∧ OR C od (.ns fs) := by
  obtain ⟨ox, h1, c1, c2, c3, c4⟩ := S.get hx
  obtain ⟨od, h2, r⟩ := S.get hd
  refine ⟨ox, od, ⟨h1, c1, ?_, ?_⟩, c2, c4, h2, r⟩
  · unfold notCls; rw [c3]
  · rw [c2]; exact h2
theorem lookIn_of {od : Obj} (r : OR C od (.ns fs)) (y : PySem.Str) : ∃ q, PySem.W.lookIn y od = some q ∧ q.map er = fs.lookup y := by
  obtain ⟨es, k, h1, h2, _, h3⟩ := r
  have := h3 y
  unfold nsFind findBy at this
  unfold PySem.W.lookIn
  rw [h1]
  dsimp only
  rw [← Array.find?_toList] at this
  cases q : es.toList.find? (fun e => e.key.isStr y) with
  | some e =>
    rw [q] at this
    exact ⟨some e.val, rfl, this⟩
  | none =>
    rw [q] at this
    have hr : es.toList.any (fun e => e.refKey) = false := by
      rw [List.any_eq_false]
      intro e he
      obtain ⟨nm, t, hk⟩ := h2 e (by simpa using he)
      unfold DictEntry.refKey
      rw [hk]; simp
    dsimp only
    rw [hr]
    exact ⟨none, rfl, this⟩

noncomputable def plainIn (K : Frag) (cl : Addr) (n : PySem.Str) : Bool := (clsIn K cl).any (·.hasDict) && findIn K (.ref cl) n == some none && findIn K (.ref cl) "__getattribute__" == some (some (.builtin "object.__getattribute__"))
theorem ga_dict {T : Top C K} (hK : plainIn K cl n = true) (hx : (x, AO.inst cl (some dx) sl) ∈ H) (hd : (dx, AO.ns fs) ∈ H) (hv : fs.lookup n = some v) (hh : handedIn v = true) (h : Q v m H) : GA C A fx (.ref x) n m H Q X := fun a ha => by
  obtain rfl := er_eq_ref ha
  intro s S
  obtain ⟨ox, od, I, h2, h3, h4, h5⟩ := S.inst hx hd
  unfold plainIn at hK
  simp only [Bool.and_eq_true, beq_iff_eq] at hK
  obtain ⟨⟨k1, k2⟩, k3⟩ := hK
  obtain ⟨cd, hcd, hcd'⟩ := any_some k1
  obtain ⟨q, e1, e2⟩ := lookIn_of h5 n
  rw [hv] at e2
  obtain ⟨r, rfl, e3⟩ := Option.map_eq_some_iff.mp e2
  have hf : findObj K cl (some od) n = some (.value r) := by
    unfold findObj
    rw [hcd, Option.bind_some, k2, Option.bind_some]
    unfold PySem.W.ownOf
    simp only [hcd', if_true, e1, Option.bind_some]
  refine get_value (T.X.keeps S.base) I k3 hf ?_ ⟨m, H, (S.toks _).1, (S.toks _).2, ?_⟩
  · subst e3
    cases r <;> first | exact hh | rfl
  · show Q (er r) m H
    rw [e3]; exact h
noncomputable def methIn (K : Frag) (cl : Addr) (n : PySem.Str) (f : Addr) : Bool := findIn K (.ref cl) "__getattribute__" == some (some (.builtin "object.__getattribute__")) && findIn K (.ref cl) "__getattr__" == some none &&
  findIn K (.ref cl) n == some (some (.ref f)) && typeIn K (.ref f) == some (.type "function")
theorem gm_own {Q : Value → List Value → Lo → AH → Prop} {T : Top C K} (hK : methIn K cl n f = true) (hx : (x, AO.inst cl (some dx) sl) ∈ H) (hd : (dx, AO.ns fs) ∈ H) (hv : fs.lookup n = none) (h : Q (.ref f) [.ref x] m H) : GM C A fx (.ref x) n m H Q X := fun a pl ha => by
  obtain rfl := er_eq_ref ha
  intro s S
  obtain ⟨ox, od, I, h2, h3, h4, h5⟩ := S.inst hx hd
  unfold methIn at hK
  simp only [Bool.and_eq_true, beq_iff_eq] at hK
  obtain ⟨⟨⟨k1, k2⟩, k3⟩, k4⟩ := hK
  obtain ⟨q, e1, e2⟩ := lookIn_of h5 n
  rw [hv] at e2
  have e3 := Option.map_eq_none_iff.mp e2
  subst e3
  exact method_fn (T.X.keeps S.base) I k1 k2 k3 k4 (show (PySem.W.lookIn n od).map (·.isSome) = some false by rw [e1]; rfl) ⟨m, H, S, Ext.refl' S, h⟩
noncomputable def bindIn (K : Frag) (cl : Addr) (n : PySem.Str) (f : Addr) : Bool := (clsIn K cl).isSome && specialIn K (.ref f) "__get__" == some (some (.builtin "function.__get__")) && takesIn K (.ref f) == some false && !copiedNames.contains n
theorem ga_method {T : Top C K} (hK : methIn K cl n f = true) (hB : bindIn K cl n f = true) (hx : (x, AO.inst cl (some dx) sl) ∈ H) (hd : (dx, AO.ns fs) ∈ H) (hv : fs.lookup n = none) (h : ∀ a, a ∉ H.keys → Q (.ref a) m ((a, .flds (.type "method") [.ref f, .ref x]) :: H)) : GA C A fx (.ref x) n m H Q X := fun a ha => by
  obtain rfl := er_eq_ref ha
  intro s S
  obtain ⟨ox, od, I, h2, h3, h4, h5⟩ := S.inst hx hd
  unfold methIn at hK
  simp only [Bool.and_eq_true, beq_iff_eq] at hK
  obtain ⟨⟨⟨k1, k2⟩, k3⟩, k4⟩ := hK
  unfold bindIn at hB
  simp only [Bool.and_eq_true, beq_iff_eq, Bool.not_eq_true'] at hB
  obtain ⟨⟨⟨b1, b2⟩, b3⟩, b4⟩ := hB
  obtain ⟨cd, hcd⟩ := Option.isSome_iff_exists.mp b1
  obtain ⟨q, e1, e2⟩ := lookIn_of h5 n
  rw [hv] at e2
  have e3 := Option.map_eq_none_iff.mp e2
  subst e3
  have hf : findObj K cl (some od) n = some (.bind (.builtin "function.__get__") (.ref f)) := by
    unfold findObj
    rw [hcd, Option.bind_some, k3, Option.bind_some]
    dsimp only
    rw [b2, Option.bind_some]
    dsimp only
    rw [b3, Option.bind_some]
    dsimp only
    have ho : PySem.W.ownOf cd (some od) n = some none := by
      unfold PySem.W.ownOf
      cases cd.hasDict
      · rfl
      · exact e1
    rw [ho, b4]
    rfl
  refine get_bind (T.X.keeps S.base) I k1 hf k2 (wpAny_call (fn_get (s := { s with toks := s.toks + 1 }) (T.X.keeps S.base) k4 ?_))
  obtain ⟨S', E'⟩ := S.push (o := methodObj (.ref f) (.ref x)) (ao := .flds (.type "method") [.ref f, .ref x]) ⟨rfl, ⟨rfl, rfl⟩, _, rfl, rfl⟩
  have S₂ := S'.toks (s.toks + 1)
  exact handed_on rfl ⟨m, _, S₂.1, E'.trans S₂.2, h _ fun hm => Nat.lt_irrefl _ (S.key_lt hm)⟩
theorem call_method {xs : List Value} {a : Addr} (ha : (a, AO.flds (.type "method") [.ref f, .ref x]) ∈ H) (h : CALLC C A fx (.ref f) (.ref x :: xs) m H Q X) : CALLC C A fx (.ref a) xs m H Q X := fun g vs hg hvs s S => by
  obtain rfl := er_eq_ref hg
  obtain ⟨o, ho, c1, ⟨c2, c2'⟩, ws, c3, c4⟩ := S.get ha
  have hm : s.heap.get? a = some (methodObj (.ref f) (.ref x)) := by
    obtain ⟨l, rfl⟩ : ∃ l, ws = List.toArray l := ⟨ws.toList, rfl⟩
    obtain ⟨a1, a2, e, e1, e2⟩ := er2 c4
    obtain rfl := er_eq_ref e1
    obtain rfl := er_eq_ref e2
    obtain ⟨oc, od, odd, osl⟩ := o
    dsimp only at c1 c2 c2' c3
    subst c1 c2 c2' c3
    rw [ho]
    simp only at e
    rw [e]
  exact method_call hm (h (.ref f) (.ref x :: vs) rfl (by rw [List.map_cons, hvs]; rfl) s S)

/-! ### attributes in slots -/
noncomputable def slotGet (K : Frag) (cl : Addr) (n : PySem.Str) (p i : Nat) : Bool := (clsIn K cl).isSome && findIn K (.ref cl) n == some (some (.ref p)) && specialIn K (.ref p) "__get__" == some (some (.builtin "member_descriptor.__get__")) &&
  takesIn K (.ref p) == some true && slotIn K p cl == some i && findIn K (.ref cl) "__getattribute__" == some (some (.builtin "object.__getattribute__")) && findIn K (.ref cl) "__getattr__" == some none
theorem ga_slot {T : Top C K} {i : Nat} (hK : slotGet K cl n p i = true) (hx : (x, AO.inst cl (some dx) sl) ∈ H) (hd : (dx, AO.ns fs) ∈ H) (hv : sl[i]? = some (some v)) (hh : handedIn v = true) (h : Q v m H) : GA C A fx (.ref x) n m H Q X := fun a ha => by
  obtain rfl := er_eq_ref ha
  intro s S
  obtain ⟨ox, od, I, h2, h3, h4, h5⟩ := S.inst hx hd
  unfold slotGet at hK
  simp only [Bool.and_eq_true, beq_iff_eq] at hK
  obtain ⟨⟨⟨⟨⟨⟨k0, k1⟩, k2⟩, k3⟩, k4⟩, k5⟩, k6⟩ := hK
  obtain ⟨cd, hcd⟩ := Option.isSome_iff_exists.mp k0
  have hf : findObj K cl (some od) n = some (.bind (.builtin "member_descriptor.__get__") (.ref p)) := by
    unfold findObj
    rw [hcd, Option.bind_some, k1, Option.bind_some]
    dsimp only
    rw [k2, Option.bind_some]
    dsimp only
    rw [k3, Option.bind_some]
  subst h3
  rw [List.getElem?_map] at hv
  obtain ⟨r, e1, e2⟩ := Option.map_eq_some_iff.mp hv
  obtain ⟨r', rfl, e3⟩ := Option.map_eq_some_iff.mp e2
  refine get_bind (T.X.keeps S.base) I k5 hf k6 (wpAny_call (slot_get (s := { s with toks := s.toks + 1 }) (v := r') (T.X.keeps S.base) I k4 (by rw [← Array.getElem?_toList, e1]; rfl) ?_))
  refine handed_on ?_ ⟨m, _, (S.toks _).1, (S.toks _).2, ?_⟩
  · subst e3
    cases r' <;> first | exact hh | rfl
  · show Q (er r') m H
    rw [e3]; exact h
end
end Mine

namespace Mine
open PySem PySem.W PyProof.Rows Builtin Builtin.ObjectAttr
open Sem (wp)

section
variable {α : Type} {C : Cfg} {A A' : Around} {fx fx' : Fx} {m m' m₁ : Lo} {H H' H₁ : AH} {X : Value → Lo → AH → Prop} {K : Frag} {s s' s₁ : Shared}
variable {x dx cl f p : Addr} {fs : List (PySem.Str × Value)} {sl : List (Option Value)} {n : PySem.Str} {v : Value}

noncomputable def nsPut (fs : List (PySem.Str × Value)) (n : PySem.Str) (v : Value) : List (PySem.Str × Value) := (n, v) :: fs.filter fun q => !(q.1 == n)
theorem nsPut_lookup (fs : List (PySem.Str × Value)) (n : PySem.Str) (v : Value) (y : PySem.Str) : (nsPut fs n v).lookup y = if y = n then some v else fs.lookup y := by
  unfold nsPut
  rw [List.lookup_cons]
  by_cases h : y = n
  · subst h; simp
  · rw [if_neg h, beq_eq_false_iff_ne.mpr h]
    dsimp only
    induction fs with
    | nil => rfl
    | cons q r ih =>
      obtain ⟨k, w⟩ := q
      rw [List.filter_cons]
      by_cases hk : k = n
      · subst hk
        simp only [beq_self_eq_true, Bool.not_true, Bool.false_eq_true, if_false]
        rw [ih, List.lookup_cons, beq_eq_false_iff_ne.mpr h]
      · have : (!(k == n)) = true := by simp [hk]
        rw [if_pos this, List.lookup_cons, List.lookup_cons, ih]
theorem or_ns {h : Heap} {a : Addr} {mm : PySem.Str → Option Value} (x : h.Ns1 a mm) (e : ∀ y, (mm y).map er = fs.lookup y) : ∃ o, h.get? a = some o ∧ OR C o (.ns fs) := by
  obtain ⟨o, es, ep, h1, h2, h3, h4, h5⟩ := x
  exact ⟨o, h1, es, ep, h2, h3, h4, fun y => by rw [h5]; exact e y⟩
theorem ns_or {h : Heap} {a : Addr} {o : Obj} (ho : h.get? a = some o) (r : OR C o (.ns fs)) : ∃ mm, h.Ns1 a mm ∧ ∀ y, (mm y).map er = fs.lookup y := by
  obtain ⟨es, k, h1, h2, h3, h4⟩ := r
  exact ⟨fun y => nsFind es y, ⟨o, es, k, ho, h1, h2, h3, fun _ => rfl⟩, h4⟩
theorem within_or {mm : PySem.Str → Option Value} (e : ∀ y, (mm y).map er = fs.lookup y) : Within mm (fs.map (·.1)) := fun y hy => by
  have h1 : fs.lookup y ≠ none := fun q => hy (Option.map_eq_none_iff.mp ((e y).trans q))
  obtain ⟨v, hv⟩ := Option.ne_none_iff_exists'.mp h1
  exact List.mem_map_of_mem (f := (·.1)) (lookup_mem hv)

/-! ### an attribute of its own is stored -/
noncomputable def storeIn (K : Frag) (cl : Addr) (n : PySem.Str) : Bool := (clsIn K cl).any (·.hasDict) && plainOver K cl && takerIn K cl n == some none && findIn K (.ref cl) "__setattr__" == some (some (.builtin "object.__setattr__"))
theorem sa_dict {Q : Lo → AH → Prop} {T : Top C K} (hK : storeIn K cl n = true) (hx : (x, AO.inst cl (some dx) sl) ∈ H) (hd : (dx, AO.ns fs) ∈ H) (hz : fs.length ≤ 1000) (h : Q m (H.put dx (.ns (nsPut fs n v)))) : SA C A fx (.ref x) n v m H Q X := fun a b ha hb => by
  obtain rfl := er_eq_ref ha
  intro s S
  obtain ⟨ox, od, I, h2, h3, h4, h5⟩ := S.inst hx hd
  have KX := T.X.keeps S.base
  unfold storeIn at hK
  simp only [Bool.and_eq_true, beq_iff_eq] at hK
  obtain ⟨⟨⟨k1, k2⟩, k3⟩, k4⟩ := hK
  obtain ⟨cd, hcd, hcd'⟩ := any_some k1
  refine set_plain KX I k4 (osa_open (s := { s with toks := s.toks + 1 }) KX I k2 k3 fun b' => ?_)
  have hx' := I.at_
  have hcl := I.cls
  obtain ⟨oc, odi, oda, osl⟩ := ox
  dsimp only at hcl h2
  subst hcl h2
  dsimp only
  unfold storeInOwnDict
  refine wpAny_bind (wpAny_pure (wpAny_bind (wpAny_bind (wpAny_loadPart hx' (wpAny_bind (looks_clsIn KX hcd _ _ _ _ (fun _ _ e => e) ?_))))))
  rw [hcd']
  refine wpAny_pure (a := some dx) (wpAny_bind (wpAny_pure ?_))
  obtain ⟨mm, e1, e2⟩ := ns_or h4 h5
  refine wpAny_bind (wpAny_nsSet1 (s := { s with toks := s.toks + 1 }) e1 fun h' hn hs => ?_)
  have e3 : ∀ y, ((fun y => if y = n then some b else mm y) y).map er = (nsPut fs n v).lookup y := fun y => by
    rw [nsPut_lookup]
    by_cases hy : y = n
    · simp [hy, hb]
    · simp only [hy, if_false]; exact e2 y
  obtain ⟨o', es, ep, ho', hd', hcount⟩ := hn.count (within_or e3)
  refine wpAny_bind (wpAny_lookBehind ho' (by rw [hd']; exact pastItsLine_dict (Nat.le_trans hcount (by
    unfold nsPut
    rw [List.length_map, List.length_cons, sizeLine_eq]
    have := List.length_filter_le (fun q : PySem.Str × Value => !(q.1 == n)) fs
    omega))) ?_)
  obtain ⟨o'', ho'', hr''⟩ := or_ns (C := C) hn e3
  obtain ⟨S', E'⟩ := S.write (s' := { s with heap := h', toks := s.toks + 1 + 1 }) hd hs ho'' hr''
  exact wpAny_pure ⟨m, _, S', E', h⟩

/-! ### a slot is stored -/
noncomputable def slotPut (K : Frag) (cl : Addr) (n : PySem.Str) (p i : Nat) : Bool := plainOver K cl && takerIn K cl n == some (some (.ref p)) && typeIn K (.ref p) == some (.type "member_descriptor") && slotIn K p cl == some i && findIn K (.ref cl) "__setattr__" == some (some (.builtin "object.__setattr__"))
noncomputable def slSet (sl : List (Option Value)) (i : Nat) (v : Value) : List (Option Value) := (sl ++ List.replicate (i + 1 - sl.length) none).set i (some v)
noncomputable def others (h : Heap) (x L : Addr) : List (Addr × Obj) := (List.range h.objs.size).filterMap fun b => if b = x ∨ b = L then none else (h.get? b).map fun o => (b, o)
theorem mem_others {h : Heap} {x L b : Addr} {o : Obj} : (b, o) ∈ others h x L ↔ b ≠ x ∧ b ≠ L ∧ h.get? b = some o := by
  unfold others
  rw [List.mem_filterMap]
  constructor
  · rintro ⟨c, hc, e⟩
    split at e
    · cases e
    · rename_i hn
      obtain ⟨o', h1, h2⟩ := Option.map_eq_some_iff.mp e
      cases h2
      exact ⟨fun q => hn (.inl q), fun q => hn (.inr q), h1⟩
  · rintro ⟨h1, h2, h3⟩
    refine ⟨b, List.mem_range.mpr (Heap.lt_size h3), ?_⟩
    rw [if_neg (by rintro (q | q) <;> contradiction), h3]; rfl
noncomputable def noHeap : Heap := { objs := #[] }
theorem noHeap_get (b : Addr) : noHeap.get? b = none := none_of_le (Nat.zero_le _)
theorem St.writeL {a : Addr} {o' : Obj} {ao ao' : AO} {mr : PySem.Str → Option Value} (S : St C A fx m H s) (ha : (a, ao) ∈ H) (hL : ∀ mr, s.heap.Ns fx.env.locals mr → s'.heap.Ns fx.env.locals mr) (hk : ∀ b o, b ≠ a → b ≠ fx.env.locals → s.heap.get? b = some o → s'.heap.get? b = some o)
    (ho : s'.heap.get? a = some o') (hr : OR C o' ao') (hg : s'.gens = s.gens := by rfl) (hos : s'.os = s.os := by rfl) : St C A fx m (H.put a ao') s' ∧ Ext A fx H s (H.put a ao') s' := by
  have hb : C.h₀.get? a = none := S.above a (.inl (mem_keys ha))
  have hLb : C.h₀.get? fx.env.locals = none := S.above _ (.inr S.locW)
  have haW : ∀ b ∈ fx.W, b ≠ a := fun b h q => S.apart b h (q ▸ mem_keys ha)
  have haC : ∀ y c, fx.env.cells.lookup y = some c → c ≠ a ∧ c ≠ fx.env.locals := fun y c e => let ⟨_, h1, _, h2⟩ := S.cellA y c e; ⟨fun q => h1 (q ▸ mem_keys ha), h2⟩
  have hkeys : (H.put a ao').keys = H.keys := AH.keys_put ..
  have cell : ∀ y c r, fx.env.cells.lookup y = some c → s.heap.IsCell c r → s'.heap.IsCell c r := fun y c r e hr => let ⟨o, h1, h2⟩ := hr; ⟨o, hk c o (haC y c e).1 (haC y c e).2 h1, h2⟩
  have vars : ∀ y v, VarAt fx.env s.heap y v → VarAt fx.env s'.heap y v := fun y v hv => by
    rcases hv with ⟨k, mr, r, hn, e1, e2⟩ | ⟨k, c, r, e1, e2, e3⟩
    · exact .inl ⟨k, mr, r, hL mr hn, e1, e2⟩
    · exact .inr ⟨k, c, r, e1, cell y c _ e1 e2, e3⟩
  refine ⟨⟨fun b o e => hk b o (fun q => by rw [q, hb] at e; cases e) (fun q => by rw [q, hLb] at e; cases e) (S.base b o e), fun q hq => ?_, S.low, fun b h => by rw [hkeys] at h; exact S.above b h, by rw [hkeys]; exact S.nodup,
    fun b h => by rw [hkeys]; exact S.apart b h, S.kind, S.glob, S.locW, fun b h => ?_, let ⟨mr, hm⟩ := S.loc; ⟨mr, hL mr hm⟩, S.cellW, fun y c e => ?_, S.cellI, fun y v hv => vars y v (S.vars y v hv), ?_, fun b h => by rw [hkeys]; exact S.frA b h, hg ▸ S.gens, hos.trans S.os⟩,
    ⟨fun b h => .inl (by rw [hkeys] at h; exact h), fun b o e h1 h2 => ⟨o.slots, hk b o (fun q => h1 (q ▸ mem_keys ha)) (fun q => h2 (q ▸ S.locW)) e, fun _ => rfl⟩, fun b h => by rw [hkeys]; exact S.apart b h⟩⟩
  · rcases mem_put hq with rfl | ⟨h1, h2⟩
    · exact ⟨o', ho, hr⟩
    · obtain ⟨o, e1, e2⟩ := S.cells q h2
      exact ⟨o, hk _ o h1 (fun z => S.apart _ S.locW (z ▸ mem_keys h2)) e1, e2⟩
  · by_cases q : b = fx.env.locals
    · subst q
      obtain ⟨mr, hm⟩ := S.loc
      obtain ⟨o, _, _, e, _⟩ := hL mr hm
      exact ⟨o, e⟩
    · obtain ⟨o, e⟩ := S.wlt b h
      exact ⟨o, hk b o (haW b h) q e⟩
  · obtain ⟨⟨r, hr⟩, h1, h2, h3⟩ := S.cellA y c e
    exact ⟨⟨r, cell y c r e hr⟩, by rw [hkeys]; exact h1, h2, h3⟩
  · obtain ⟨l, hl, hF⟩ := S.frs
    have hfa : ∀ b ∈ l.filterMap (·.frame), b ≠ a := fun b hb q => S.frA b (by unfold frameAddrs; rw [hl]; exact hb) (q ▸ mem_keys ha)
    refine ⟨l, hl, ?_⟩
    clear hl
    induction l with
    | nil => trivial
    | cons env rest ih =>
      obtain ⟨h1, ⟨L, o, hL', hb', ho', hd⟩, hr⟩ := hF
      rw [List.filterMap_cons, hL'] at hfa
      refine ⟨h1, ?_, ih hr fun b h => hfa b (List.mem_cons_of_mem _ h)⟩
      by_cases q : L = fx.env.locals
      · subst q
        obtain ⟨mr, hm⟩ := S.loc
        obtain ⟨o₂, es, ep, e, d, _⟩ := hL mr hm
        exact ⟨_, o₂, hL', hb', e, fun vs z => by rw [d] at z; cases z⟩
      · exact ⟨L, o, hL', hb', hk L o (hfa L List.mem_cons_self) q ho', hd⟩

theorem sa_slot {Q : Lo → AH → Prop} {T : Top C K} {i : Nat} (hK : slotPut K cl n p i = true) (hi : i < 1000) (hx : (x, AO.inst cl (some dx) sl) ∈ H) (hd : (dx, AO.ns fs) ∈ H) (h : Q m (H.put x (.inst cl (some dx) (slSet sl i v)))) : SA C A fx (.ref x) n v m H Q X := fun a b ha hb => by
  obtain rfl := er_eq_ref ha
  intro s S
  obtain ⟨ox, od, I, h2, h3, h4, h5⟩ := S.inst hx hd
  have KX := T.X.keeps S.base
  unfold slotPut at hK
  simp only [Bool.and_eq_true, beq_iff_eq] at hK
  obtain ⟨⟨⟨⟨k1, k2⟩, k3⟩, k4⟩, k5⟩ := hK
  obtain ⟨mr, hn⟩ := S.loc
  obtain ⟨oL, esL, epL, hoL, hrL⟩ := id hn
  have hxL : x ≠ fx.env.locals := fun q => S.apart _ S.locW (q ▸ mem_keys hx)
  obtain ⟨ox', h1', c1, c2, c3, c4⟩ := S.get hx
  have hox : ox' = ox := by have := I.at_; rw [h1'] at this; exact Option.some.inj this
  subst hox
  have hfree : ∀ sl', ({ ox' with slots := sl' } : Obj).isFreed = false := fun sl' => by
    obtain ⟨oc, odi, oda, osl⟩ := ox'
    dsimp only at c3
    subst c3
    rfl
  refine set_plain KX I k5 (osa_descr (s := { s with toks := s.toks + 1 }) KF.slot_mset KX I k1 k2 k3 ?_)
  refine slot_set (h₀ := noHeap) (L := fx.env.locals) (m := mr) (pre := []) (post := others s.heap x fx.env.locals) (s := { s with toks := s.toks + 1 }) ⟨hn, (fun b o e => by rw [noHeap_get] at e; cases e), Nat.zero_le _⟩ (fun q hq => ?_) KX I k4 hi (fun q hq => by cases hq) (fun q hq => ?_) rfl (hfree _) fun h' F' N' => ?_
  · rcases List.mem_cons.mp hq with rfl | hq
    · exact ⟨h1', hxL, noHeap_get _⟩
    · obtain ⟨b, o⟩ := q
      obtain ⟨e1, e2, e3⟩ := mem_others.mp hq
      exact ⟨e3, e2, noHeap_get _⟩
  · obtain ⟨b, o⟩ := q
    exact (mem_others.mp hq).1
  · have hLoc : ∀ mr', s.heap.Ns fx.env.locals mr' → h'.Ns fx.env.locals mr' := fun mr' hn' => by
      have : mr' = mr := by
        funext y
        obtain ⟨o₁, es₁, ep₁, a1, a2, a3, a4⟩ := hn
        obtain ⟨o₂, es₂, ep₂, b1, b2, b3, b4⟩ := hn'
        rw [a1] at b1; cases b1
        rw [a2] at b2; cases b2
        rw [← a4, ← b4]
      rw [this]; exact F'.ns
    have hkeep : ∀ b o, b ≠ x → b ≠ fx.env.locals → s.heap.get? b = some o → h'.get? b = some o := fun b o hb1 hb2 e => (N' (b, o) (List.mem_cons_of_mem _ (mem_others.mpr ⟨hb1, hb2, e⟩))).1
    have hat := (N' _ List.mem_cons_self).1
    have hor : OR C { ox' with slots := (ox'.slots ++ Array.replicate (i + 1 - ox'.slots.size) none).setIfInBounds i (some b) } (.inst cl (some dx) (slSet sl i v)) := by
      refine ⟨c1, c2, c3, ?_⟩
      unfold slSet
      rw [← c4]
      simp only [Array.toList_setIfInBounds, Array.toList_append, Array.toList_replicate, List.map_set, List.map_append, List.map_replicate, Option.map_some, Option.map_none, List.length_map, Array.length_toList, hb]
    obtain ⟨S', E'⟩ := S.writeL (mr := mr) (s' := { s with heap := h', toks := s.toks + 1 }) hx hLoc hkeep hat hor
    exact ⟨m, _, S', E', h⟩
end
end Mine

namespace Mine
open PySem PySem.W PyProof.Rows
open Sem (wp)

structure Room (A : Around) (n : Nat) : Prop where
  depth : A.depth + 4 * n ≤ 900
  units : A.units + 20 * n ≤ 9000
  hand : A.handled = none
theorem le_N {n k N : Nat} (h : n ≤ k) (e : Nat.ble k N = true) : n ≤ N := Nat.le_trans h (Nat.le_of_ble_eq_true e)
theorem lt_N {n k N : Nat} (h : n ≤ k) (e : Nat.ble (k + 1) N = true) : n < N := Nat.le_trans (Nat.succ_le_succ h) (Nat.le_of_ble_eq_true e)
theorem ton_n {y : Int} {n : Nat} (h : 0 ≤ y ∧ y < (n : Int)) : y.toNat < n := by omega
theorem ton_N {y : Int} {n k N : Nat} (h : 0 ≤ y ∧ y < (n : Int)) (hn : n ≤ k) (e : Nat.ble k N = true) : y.toNat ≤ N := Nat.le_trans (Nat.le_of_lt (ton_n h)) (le_N hn e)
theorem int_N {y N : Int} {n k : Nat} (h : 0 ≤ y ∧ y < (n : Int)) (hn : n ≤ k) (e : decide ((k : Int) ≤ N) = true) : y ≤ N := Int.le_trans (Int.le_of_lt h.2) (Int.le_trans (Int.ofNat_le.mpr hn) (of_decide_eq_true e))
theorem int_L {y N : Int} {n k : Nat} (h : 0 ≤ y ∧ y < (n : Int)) (hn : n ≤ k) (e : decide ((k : Int) ≤ N) = true) : y < N := Int.lt_of_lt_of_le h.2 (Int.le_trans (Int.ofNat_le.mpr hn) (of_decide_eq_true e))
theorem cast_beq {a b : Nat} : ((a : Int) == (b : Int)) = decide (a = b) := by rw [Bool.eq_iff_iff]; simp; omega
theorem up_N {a c n k m : Nat} (h : a + c * (n + 1) ≤ m) (hk : Nat.ble k c = true) : a + k + c * n ≤ m := by
  refine Nat.le_trans ?_ h
  rw [Nat.mul_succ, Nat.add_assoc, Nat.add_comm k]
  exact Nat.add_le_add_left (Nat.add_le_add_left (Nat.le_of_ble_eq_true hk) _) _
theorem plus_lt {a c k m N : Nat} (h : a + c ≤ m) (e : Nat.ble (m + k + 1) N = true) : a + k < N :=
  Nat.lt_of_lt_of_le (Nat.lt_succ_of_le (Nat.add_le_add_right (Nat.le_trans (Nat.le_add_right a c) h) k)) (Nat.le_of_ble_eq_true e)
theorem Room.deeper {A : Around} {n : Nat} {env : Env} (r : Room A (n + 1)) : Room (A.deeper env) n := ⟨up_N r.depth rfl, up_N r.units rfl, r.hand⟩
theorem Room.less {A : Around} {n k : Nat} (r : Room A n) (h : k ≤ n) : Room A k := ⟨Nat.le_trans (Nat.add_le_add_left (Nat.mul_le_mul_left 4 h) _) r.depth, Nat.le_trans (Nat.add_le_add_left (Nat.mul_le_mul_left 20 h) _) r.units, r.hand⟩
theorem Room.lim {A : Around} {n : Nat} (r : Room A n) : A.depth < recursionLimit := plus_lt (k := 0) (N := 1000) r.depth rfl
theorem Room.eqs {A : Around} {n : Nat} (r : Room A n) : A.units + 64 < cLine := plus_lt (N := 9900) r.units rfl
structure Near (A A' : Around) : Prop where
  frames : A'.frames = A.frames
  hand : A'.handled = A.handled
  depth : A'.depth ≤ A.depth + 3
  units : A'.units ≤ A.units + 12
theorem Room.near {A A' : Around} {n : Nat} (r : Room A (n + 1)) (h : Near A A') : Room A' n := ⟨Nat.le_trans (Nat.add_le_add_right h.depth _) (up_N r.depth rfl), Nat.le_trans (Nat.add_le_add_right h.units _) (up_N r.units rfl), h.hand.trans r.hand⟩

section
variable {α : Type} {C : Cfg} {A A' : Around} {fx fx' : Fx} {m m' m₁ : Lo} {H H' H₁ : AH} {X : Value → Lo → AH → Prop} {K : Frag} {s s' s₁ : Shared} {Q : Value → Lo → AH → Prop}
variable {x dx cl f p : Addr} {fs : List (PySem.Str × Value)} {sl : List (Option Value)} {n : PySem.Str} {v : Value} {xs : List Value}

theorem under_make (A : Around) (cl : Addr) (vs : List Value) : Near A (A.under (.builtin "type.__call__" ⟨.ref cl :: vs, []⟩)) := by
  refine ⟨rfl, rfl, ?_, ?_⟩
  · show A.depth + 1 ≤ _; omega
  · show A.units + (Code.builtin "type.__call__" ⟨.ref cl :: vs, []⟩).cUnits ≤ _
    have : (Code.builtin "type.__call__" ⟨.ref cl :: vs, []⟩).cUnits ≤ 12 := by first | decide | (show (1 : Nat) ≤ 12; decide) | (show (2 : Nat) ≤ 12; decide) | (show (3 : Nat) ≤ 12; decide)
    omega
theorem call_make {T : Top C K} (hm : makesIn K cl = true) (hi : findIn K (.ref cl) "__init__" = some (some (.ref f))) (hf : typeIn K (.ref f) = some (.type "function"))
    (h : ∀ A' x dx, Near A A' → x ∉ H.keys → dx ∉ H.keys → x ≠ dx → CALLC C A' fx (.ref f) (.ref x :: xs) m ((x, .inst cl (some dx) []) :: (dx, .ns []) :: H) (fun v m' H' => v = .none ∧ Q (.ref x) m' H') X) : CALLC C A fx (.ref cl) xs m H Q X := fun g vs hg hvs s S => by
  obtain rfl := er_eq_ref hg
  have KX := T.X.keeps S.base
  obtain ⟨hh, g, d, t, os⟩ := s
  refine make_core (makes_of KX hm) (looks_findIn KX hi) (fun self => bind_fn KX self hf) (.inl rfl) ?_
  obtain ⟨S₁, E₁⟩ := S.push (o := emptyDict) (ao := .ns []) ⟨#[], 0, rfl, fun e he => by simp at he, List.Pairwise.nil, fun y => rfl⟩
  obtain ⟨S₂, E₂⟩ := S₁.push (o := instObj cl hh.objs.size) (ao := .inst cl (some hh.objs.size) []) ⟨rfl, rfl, rfl, rfl⟩
  have hsz : (hh.push emptyDict).objs.size = hh.objs.size + 1 := Heap.size_push ..
  dsimp only at S₂ E₂
  rw [hsz] at S₂ E₂
  have hN := under_make A cl vs
  have hk : ∀ b, hh.objs.size ≤ b → b ∉ H.keys := fun b hb hm => Nat.lt_irrefl _ (Nat.lt_of_lt_of_le (S.key_lt hm) hb)
  refine codeAny_mono (h _ (hh.objs.size + 1) hh.objs.size hN (hk _ (Nat.le_succ _)) (hk _ (Nat.le_refl _)) (Nat.succ_ne_self _) (.ref f) (.ref (hh.objs.size + 1) :: vs) rfl (by rw [List.map_cons, hvs]; rfl) _ (S₂.inA hN.frames)) fun r s' hr => ?_
  cases r with
  | error e =>
    obtain ⟨m', H', S', E', q⟩ := hr
    exact ⟨m', H', S'.inA hN.frames.symm, (E₁.trans E₂).trans (E'.inA hN.frames.symm), q⟩
  | ok fl =>
    cases fl with
    | ret v =>
      obtain ⟨m', H', S', E', q1, q2⟩ := hr
      exact ⟨er_eq_none q1, m', H', S'.inA hN.frames.symm, (E₁.trans E₂).trans (E'.inA hN.frames.symm), q2⟩
    | next => exact hr
    | brk => exact hr
    | cont => exact hr
theorem kp_class {o : Obj} {cd : ClassData} (T : Top C K) (ho : K.lookup cl = some o) (hd : o.data = .cls cd) (hs : specialIn K (.ref cl) "__call__" = some (some (.builtin "type.__call__"))) : KP C A fx (.ref cl) m H := kp_cls (T.X cl o ho) hd T.X hs
end
end Mine

namespace Mine
open PySem PySem.W PyProof.Rows
open Sem (wp)

section
variable {α : Type} {C : Cfg} {A A' : Around} {fx fx' : Fx} {m m' m₁ : Lo} {H H' H₁ : AH} {X : Value → Lo → AH → Prop} {K : Frag} {s s' s₁ : Shared}

/-! ### rows of statements, so that a proof may step -/
noncomputable def seqQ (C : Cfg) (A : Around) (fx : Fx) (r : List Stmt) (Q : Flow → Lo → AH → Prop) (X : Value → Lo → AH → Prop) : Flow → Lo → AH → Prop := fun f m H => match f with
  | .next => EXS C A fx r m H Q X
  | f => Q f m H
theorem seq_next {r : List Stmt} {Q : Flow → Lo → AH → Prop} (h : EXS C A fx r m H Q X) : seqQ C A fx r Q X .next m H := h
theorem seq_ret {r : List Stmt} {Q : Flow → Lo → AH → Prop} {v : Value} (h : Q (.ret v) m H) : seqQ C A fx r Q X (.ret v) m H := h
theorem seq_brk {r : List Stmt} {Q : Flow → Lo → AH → Prop} (h : Q .brk m H) : seqQ C A fx r Q X .brk m H := h
theorem seq_cont {r : List Stmt} {Q : Flow → Lo → AH → Prop} (h : Q .cont m H) : seqQ C A fx r Q X .cont m H := h
theorem exs_seq {st : Stmt} {r : List Stmt} {Q : Flow → Lo → AH → Prop} (h : EX C A fx st m H (seqQ C A fx r Q X) X) : EXS C A fx (st :: r) m H Q X :=
  exs_cons (aw_mono h (fun f _ _ q => by revert q; generalize erF f = f'; intro q; cases f' <;> exact q) fun _ _ _ x => x)
theorem loop_next {Q : Flow → Lo → AH → Prop} {J : Lo → AH → Prop} (h : J m H) : loopPost Q J .next m H := h
theorem loop_cont {Q : Flow → Lo → AH → Prop} {J : Lo → AH → Prop} (h : J m H) : loopPost Q J .cont m H := h
theorem loop_brk {Q : Flow → Lo → AH → Prop} {J : Lo → AH → Prop} (h : Q .next m H) : loopPost Q J .brk m H := h
theorem loop_ret {Q : Flow → Lo → AH → Prop} {J : Lo → AH → Prop} {v : Value} (h : Q (.ret v) m H) : loopPost Q J (.ret v) m H := h
theorem if_yes {p q : Prop} (h : p) : (if true = true then p else q) := by rw [if_pos rfl]; exact h
theorem if_no {p q : Prop} (h : q) : (if false = true then p else q) := by rw [if_neg (by decide)]; exact h
theorem if_dec {b : Bool} {p q : Prop} (h1 : b = true → p) (h2 : b = false → q) : (if b = true then p else q) := by cases b with | true => exact if_yes (h1 rfl) | false => exact if_no (h2 rfl)

/-! ### names, by the scope written out -/
noncomputable def stor (k : Option NameKind) : Bool := match k with | some .local => true | some .cell => true | _ => false
structure Sc (fx : Fx) (sc : Scope) (os : List (PySem.Str × NameKind)) : Prop where
  scope : fx.env.scope = sc
  own : ∀ x, stor (os.lookup x) = true → Own fx x
theorem FxIs.sc {fd : FuncData} {f : Addr} (h : FxIs fx fd f) : Sc fx fd.scope fd.scope.names := ⟨h.scope, fun x hx => by
  cases q : fd.scope.names.lookup x with
  | none => rw [q] at hx; cases hx
  | some k =>
    rw [q] at hx
    cases k <;> first | exact .inl ((h.kindOf x).trans q) | exact .inr ⟨(h.kindOf x).trans q, h.W x⟩ | cases hx⟩
theorem CompFx.toSc {scope outer : Scope} (h : CompFx fx scope fx') (hs : fx.env.scope = outer) (SO : ScOk scope outer) : Sc fx' (relS scope outer) scope.names := ⟨by rw [h.sc, hs], fun x hx => by
  have hk := h.kindOf x
  rw [hs] at hk
  unfold relS at hk
  rw [rel_lookup] at hk
  cases q : scope.names.lookup x with
  | none => rw [q] at hx; cases hx
  | some k =>
    rw [q] at hx hk
    cases k with
    | «local» => exact .inl hk
    | cell => exact .inr ⟨hk, fun c hc => h.cell x (mem_of_lookup q) c hc fun hf => by have := mem_lookup SO.nodup hf; rw [q] at this; cases this⟩
    | _ => cases hx⟩
theorem Sc.kind {sc : Scope} {os : List (PySem.Str × NameKind)} (Z : Sc fx sc os) {x : PySem.Str} {k : NameKind} (h : sc.names.lookup x = some k) : fx.env.kindOf x = some k := by unfold Env.kindOf; rw [Z.scope]; exact h
theorem ev_gl {sc : Scope} {os : List (PySem.Str × NameKind)} {x : PySem.Str} {pos : Pos} {v : Value} {Q : Value → Lo → AH → Prop} (T : Top C K) (Z : Sc fx sc os) (e : nsIn K mainGlobals x = some (some v)) (hk : sc.names.lookup x = some .globalImplicit) (h : Q (er v) m H)
    (hd : (x == ("__debug__" : PySem.Str)) = false := by decide) : EV C A fx (.Name x pos) m H Q X := ev_glob T e (Z.kind hk) h hd
theorem ev_bi {sc : Scope} {os : List (PySem.Str × NameKind)} {x : PySem.Str} {pos : Pos} {v : Value} {Q : Value → Lo → AH → Prop} (T : Top C K) (Z : Sc fx sc os) (e : nsIn K mainGlobals x = some none) (hk : sc.names.lookup x = some .globalImplicit) (hv : bootBuiltins x = some v) (hn : x ≠ "__name__") (h : Q (er v) m H)
    (hd : (x == ("__debug__" : PySem.Str)) = false := by decide) : EV C A fx (.Name x pos) m H Q X := ev_builtin T e (Z.kind hk) hv hn h hd
theorem asg_nm {sc : Scope} {os : List (PySem.Str × NameKind)} {x : PySem.Str} {pos : Pos} {v : Value} {Q : Lo → AH → Prop} (Z : Sc fx sc os) (hk : stor (os.lookup x) = true) (h : Q (m.put x v) H) : ASG C A fx (.Name x pos) v m H Q X := asg_name (Z.own x hk) h
theorem ev_walrus {sc : Scope} {os : List (PySem.Str × NameKind)} {x : PySem.Str} {px pos : Pos} {e : PySem.Expr} {Q : Value → Lo → AH → Prop} (Z : Sc fx sc os) (hk : stor (os.lookup x) = true) (h : EV C A fx e m H (fun v m₁ H₁ => Q v (m₁.put x v) H₁) X) : EV C A fx (.NamedExpr (.Name x px) e pos) m H Q X := ev_named (Z.own x hk) h
theorem fnAt {T : Top C K} {f : Addr} {oc : Value} {od : Option Addr} {osl : Array (Option Value)} {name qual : PySem.Str} {params : Arguments} {body : List Stmt} {scope : Scope} {dV kV doc pm cdv ct : Value} {an : Option Addr}
    (ho : K.lookup f = some ⟨oc, od, .func (fnOf name qual params body scope dV kV doc pm an cdv ct), osl⟩) (hcode : codeIn K cdv qual = true)
    (hco : scope.isCoroutine = false) (hgen : scope.isGenerator = false) (hk : scope.kind = .function) : FnAt C f (fnOf name qual params body scope dV kV doc pm an cdv ct) body :=
  ⟨⟨_, T.X f _ ho, rfl⟩, rfl, rfl, rfl, rfl, codeRec_of T.X hcode, T.nolimit, hco, hgen, hk⟩
noncomputable def namesB (scope : Scope) (names : List PySem.Str) : Bool := (names.all fun b => stor (scope.names.lookup b)) && distinctB (names.map fun b => (b, NameKind.local))
theorem bindOk_of {fd : FuncData} {binds : List (PySem.Str × Value)} (h : namesB fd.scope (binds.map (·.1)) = true) : BindOk fd binds := by
  unfold namesB at h
  simp only [Bool.and_eq_true, List.all_eq_true] at h
  refine ⟨fun x hx => ?_, ?_⟩
  · have := h.1 x.1 (List.mem_map_of_mem hx)
    cases q : fd.scope.names.lookup x.1 with
    | none => rw [q] at this; cases this
    | some k => rw [q] at this; cases k <;> first | exact .inl rfl | exact .inr rfl | cases this
  · have := distinct_of h.2
    rw [List.map_map] at this
    rw [List.map_map] at this
    exact this
section
variable {f : Addr} {name qual : PySem.Str} {params : Arguments} {body : List Stmt} {scope : Scope} {dV kV doc pm cdv ct : Value} {an : Option Addr} {n : Nat} {Q : Value → Lo → AH → Prop}
theorem call1 (R : Room A (n + 1)) (F : FnAt C f (fnOf name qual params body scope dV kV doc pm an cdv ct) body) {x : Value} (n1 : PySem.Str)
    (hb : ∀ a, bindArgs (fnOf name qual params body scope dV kV doc pm an cdv ct) ⟨[a], []⟩ = pure [(n1, a)]) (hB : namesB scope [n1] = true)
    (h : ∀ A' fx', Room A' n → Sc fx' scope scope.names → EXS C A' fx' body [(n1, x)] H (fun fl _ H₂ => Q (retV fl) m H₂) noX) : CALLC C A fx (.ref f) [x] m H Q X :=
  call_fn F R.lim fun vs hvs => by
    obtain ⟨a, rfl, ha⟩ := er1 hvs
    refine aw_binds (hb a) ⟨bindOk_of hB, fun _ => noX, fun fx' I => ?_, fun _ _ _ _ _ z => z.elim⟩
    subst ha; exact h _ fx' R.deeper I.sc
theorem call2 (R : Room A (n + 1)) (F : FnAt C f (fnOf name qual params body scope dV kV doc pm an cdv ct) body) {x y : Value} (n1 n2 : PySem.Str)
    (hb : ∀ a b, bindArgs (fnOf name qual params body scope dV kV doc pm an cdv ct) ⟨[a, b], []⟩ = pure [(n1, a), (n2, b)]) (hB : namesB scope [n1, n2] = true)
    (h : ∀ A' fx', Room A' n → Sc fx' scope scope.names → EXS C A' fx' body [(n1, x), (n2, y)] H (fun fl _ H₂ => Q (retV fl) m H₂) noX) : CALLC C A fx (.ref f) [x, y] m H Q X :=
  call_fn F R.lim fun vs hvs => by
    obtain ⟨a, b, rfl, ha, hb'⟩ := er2 hvs
    refine aw_binds (hb a b) ⟨bindOk_of hB, fun _ => noX, fun fx' I => ?_, fun _ _ _ _ _ z => z.elim⟩
    subst ha hb'; exact h _ fx' R.deeper I.sc
theorem call3 (R : Room A (n + 1)) (F : FnAt C f (fnOf name qual params body scope dV kV doc pm an cdv ct) body) {x y z : Value} (n1 n2 n3 : PySem.Str)
    (hb : ∀ a b c, bindArgs (fnOf name qual params body scope dV kV doc pm an cdv ct) ⟨[a, b, c], []⟩ = pure [(n1, a), (n2, b), (n3, c)]) (hB : namesB scope [n1, n2, n3] = true)
    (h : ∀ A' fx', Room A' n → Sc fx' scope scope.names → EXS C A' fx' body [(n1, x), (n2, y), (n3, z)] H (fun fl _ H₂ => Q (retV fl) m H₂) noX) : CALLC C A fx (.ref f) [x, y, z] m H Q X :=
  call_fn F R.lim fun vs hvs => by
    obtain ⟨a, b, c, rfl, ha, hb', hc⟩ := er3 hvs
    refine aw_binds (hb a b c) ⟨bindOk_of hB, fun _ => noX, fun fx' I => ?_, fun _ _ _ _ _ z => z.elim⟩
    subst ha hb' hc; exact h _ fx' R.deeper I.sc
end
end
end Mine

namespace Mine
open PySem PySem.W PyProof.Rows
open Sem (wp)

section
variable {α : Type} {C : Cfg} {A A' : Around} {fx fx' : Fx} {m m' m₁ : Lo} {H H' H₁ R : AH} {X : Value → Lo → AH → Prop} {K : Frag} {s s' s₁ : Shared} {e : Addr} {cls fl : Value}

/-! ### exceptions in flight -/
structure Here (A : Around) (fx : Fx) : Prop where
  frame : fx.env.frame = some fx.env.locals
  top : ∀ l, A.frames = some l → ∃ o, l = fx.env :: o
theorem Here.of {fd : FuncData} {f : Addr} (I : FxIs fx fd f) : Here (A.deeper fx.env) fx := ⟨I.frame, fun l h => by
  have h : A.frames.map _ = some l := h
  obtain ⟨o, _, rfl⟩ := Option.map_eq_some_iff.mp h
  exact ⟨o, rfl⟩⟩

noncomputable def ExnT (e : Addr) (cls fl : Value) (R H : AH) : Prop := ∃ T, H = (e, .exc cls (.ref T)) :: (T, .tb fl) :: R
noncomputable def Exn (L : Addr) (e : Addr) (cls : Value) (R H : AH) : Prop := H = (e, .exc cls .none) :: R ∨ ExnT e cls .none R H ∨ ExnT e cls (rawInt L) R H

noncomputable def hidden (A : Around) (top : List Addr) : List Addr := top ++ frameAddrs A

theorem exn_frames (S : St C A fx m H s) (top : List Addr) : ∃ l, A.frames = some l ∧ s.heap.FunFrames (hideAll s.heap (hidden A top)) l := by
  obtain ⟨l, hl, hF⟩ := S.frs
  refine ⟨l, hl, ?_⟩
  have : ∀ {l : List Env}, s.heap.FunFrames C.h₀ l → (∀ env ∈ l, ∀ a, env.frame = some a → a ∈ hidden A top) → s.heap.FunFrames (hideAll s.heap (hidden A top)) l := by
    intro l
    induction l with
    | nil => intro _ _; trivial
    | cons env r ih =>
      rintro ⟨h1, ⟨L, o, hL, hb, ho, hd⟩, hr⟩ hin
      exact ⟨h1, ⟨L, o, hL, hideAll_none _ (hin env List.mem_cons_self L hL), ho, hd⟩, ih hr fun e h => hin e (List.mem_cons_of_mem _ h)⟩
  refine this hF fun env h a ha => ?_
  refine List.mem_append_right _ ?_
  unfold frameAddrs
  rw [hl]
  exact List.mem_filterMap.mpr ⟨env, h, ha⟩

theorem exn_put {h' : Heap} {a0 : Value} {l : List Env} {top : List Addr} (hl : A.frames = some l) (S : St C A fx m H s) (he : e ∈ top) (hH : ∃ H₀ : AH, H = H₀ ++ R ∧ H₀.keys = top)
    (k1 : (hideAll s.heap (hidden A top)).StaysIn h') (k2 : h'.FunFrames (hideAll s.heap (hidden A top)) l) (k3 : h'.TracedAtW (hideAll s.heap (hidden A top)) e cls a0 fl)
    (k4 : ∀ b o, s.heap.get? b = some o → (∀ vs, o.data ≠ .fields vs) → ∃ sl, h'.get? b = some { o with slots := sl }) :
    ∃ H', ExnT e cls fl R H' ∧ St C A fx m H' { s with heap := h' } ∧ Ext A fx H s H' { s with heap := h' } := by
  obtain ⟨H₀, rfl, hk⟩ := hH
  obtain ⟨oe, vs, T, oT, ts, he1, ⟨hc, h0⟩, hd, h1, hnT, hTe, hT, hdT, h3⟩ := k3
  have hnd := S.nodup
  have hkeys : (H₀ ++ R).keys = top ++ R.keys := by unfold AH.keys at hk ⊢; rw [List.map_append, hk]
  rw [hkeys] at hnd
  have hndp := List.nodup_append.mp hnd
  have hR : ∀ b ∈ R.keys, b ∉ hidden A top := fun b hb hm => by
    rcases List.mem_append.mp hm with h | h
    · exact hndp.2.2 b h b hb rfl
    · exact S.frA b h (by rw [hkeys]; exact List.mem_append_right _ hb)
  have keep : ∀ b o, s.heap.get? b = some o → b ∉ hidden A top → h'.get? b = some o := fun b o e hn => k1 b o (hideAll_get _ e hn)
  have hTR : T ∉ R.keys := fun hm => by
    obtain ⟨p, hp, rfl⟩ := List.mem_map.mp hm
    obtain ⟨o, ho, _⟩ := S.cells p (List.mem_append_right _ hp)
    rw [hideAll_get _ ho (hR _ (mem_keys hp))] at hnT
    cases hnT
  have heR : e ∉ R.keys := fun hm => hndp.2.2 e he e hm rfl
  refine ⟨_, ⟨T, rfl⟩, S.upd (fun b o hb hn => ?_) (fun p hp => ?_) (fun b hb => ?_) ?_ S.gens rfl⟩
  · rw [hkeys, List.mem_append, not_or] at hn
    by_cases hf : b ∈ frameAddrs A
    · have hf' := hf
      unfold frameAddrs at hf'
      obtain ⟨l', hl', hF⟩ := S.frs
      rw [hl'] at hf'
      obtain ⟨_, o', ho', hd'⟩ := hF.mem hf'
      rw [hb] at ho'; cases ho'
      obtain ⟨sl, q⟩ := k4 b o hb hd'
      exact ⟨sl, q, fun hq => absurd hf hq⟩
    · exact .of_keep (keep b o hb fun hm => (List.mem_append.mp hm).elim hn.1 hf)
  · rcases List.mem_cons.mp hp with rfl | hp
    · exact ⟨oe, he1, hc, vs, a0, hd, h0, h1⟩
    · rcases List.mem_cons.mp hp with rfl | hp
      · exact ⟨oT, hT, ts, hdT, h3⟩
      · obtain ⟨o, h1, h2⟩ := S.cells p (List.mem_append_right _ hp)
        exact ⟨o, keep _ _ h1 (hR _ (mem_keys hp)), h2⟩
  · rcases List.mem_cons.mp hb with rfl | hb
    · exact .inl (by rw [hkeys]; exact List.mem_append_left _ he)
    · rcases List.mem_cons.mp hb with rfl | hb
      · by_cases hm : b ∈ top
        · exact .inl (by rw [hkeys]; exact List.mem_append_left _ hm)
        · refine .inr ?_
          cases q : s.heap.get? b with
          | none => rfl
          | some o =>
            exfalso
            have hf : b ∈ frameAddrs A := by
              by_cases hf : b ∈ frameAddrs A
              · exact hf
              · have z := hideAll_get (hidden A top) q fun hh => (List.mem_append.mp hh).elim hm hf
                rw [hnT] at z; cases z
            unfold frameAddrs at hf
            rw [hl] at hf
            obtain ⟨_, o', ho', hd'⟩ := k2.mem hf
            rw [hT] at ho'; cases ho'
            exact hd' _ hdT
      · exact .inl (by rw [hkeys]; exact List.mem_append_right _ hb)
  · refine List.nodup_cons.mpr ⟨fun hm => ?_, List.nodup_cons.mpr ⟨hTR, hndp.2.1⟩⟩
    rcases List.mem_cons.mp hm with q | hm
    · exact hTe q.symm
    · exact heR hm

theorem exn_there {T : Addr} (S : St C A fx m ((e, .exc cls (.ref T)) :: (T, .tb fl) :: R) s) : ∃ a0, s.heap.TracedAtW (hideAll s.heap (hidden A [e, T])) e cls a0 fl := by
  obtain ⟨oe, h1, hc, ws, a0, hd, h0, h2⟩ := S.get List.mem_cons_self
  obtain ⟨oT, h3, ts, h4, h5⟩ := S.get (List.mem_cons_of_mem _ List.mem_cons_self)
  refine ⟨a0, oe, ws, T, oT, ts, h1, ⟨hc, h0⟩, hd, h2, hideAll_none _ (List.mem_append_left _ (by simp)), ?_, h3, h4, h5⟩
  have := S.nodup
  intro q
  subst q
  exact (List.nodup_cons.mp this).1 List.mem_cons_self
theorem exn_stays {as : List Addr} : (hideAll s.heap as).StaysIn s.heap := fun b o q => of_hideAll _ q

theorem aw_note {Q : Unit → Lo → AH → Prop} (hh : Here A fx) (hX : Exn fx.env.locals e cls R H) (h : ∀ H', ExnT e cls (rawInt fx.env.locals) R H' → Q () m H') : AW C A fx (noteFrame (.ref e) fx.env) m H Q X := by
  rcases hX with rfl | ⟨T, rfl⟩ | ⟨T, rfl⟩ <;> intro s S
  · obtain ⟨oe, h1, hc, ws, a0, hd, h0, h2⟩ := S.get List.mem_cons_self
    obtain ⟨l, hl, hF⟩ := exn_frames S [e]
    obtain ⟨o, rfl⟩ := hh.top l hl
    unfold noteFrame
    simp only [hh.frame]
    refine wpAny_bind (wpAny_field h1 hd h2 ?_)
    rw [if_neg (by decide)]
    refine wpAny_entryW hl hF hh.frame h1 exn_stays (hideAll_none _ (List.mem_append_left _ (by simp))) hd (Array.getElem?_eq_some_iff.mp h2).1 h0 fun h' hN => ?_
    obtain ⟨k1, k2, k3, k4⟩ := hN
    rw [hc] at k3
    obtain ⟨H', x1, x2, x3⟩ := exn_put (top := [e]) hl S (by simp) ⟨[_], rfl, rfl⟩ k1 k2 k3 k4
    exact ⟨m, H', x2, x3, h H' x1⟩
  · obtain ⟨a0, hT⟩ := exn_there S
    obtain ⟨l, hl, hF⟩ := exn_frames S [e, T]
    obtain ⟨o, rfl⟩ := hh.top l hl
    refine wpAny_noteFrame_onW hl hF hh.frame hT exn_stays (hideAll_none _ (List.mem_append_left _ (by simp))) fun h' hN => ?_
    obtain ⟨k1, k2, k3, k4⟩ := hN
    obtain ⟨H', x1, x2, x3⟩ := exn_put (top := [e, T]) hl S (by simp) ⟨[_, _], rfl, rfl⟩ k1 k2 k3 k4
    exact ⟨m, H', x2, x3, h H' x1⟩
  · obtain ⟨a0, hT⟩ := exn_there S
    exact wpAny_noteFrame_againW hh.frame hT ⟨m, _, S, Ext.refl' S, h _ ⟨T, rfl⟩⟩

theorem aw_flight {Q : Unit → Lo → AH → Prop} (hX : ExnT e cls fl R H) (h : ∀ H', ExnT e cls .none R H' → Q () m H') : AW C A fx (setFlight (.ref e) none) m H Q X := by
  obtain ⟨T, rfl⟩ := hX
  intro s S
  obtain ⟨a0, hT⟩ := exn_there S
  obtain ⟨l, hl, hF⟩ := exn_frames S [e, T]
  refine wpAny_setFlight_noneW exn_stays hF hT fun h' k1 k2 k3 k4 => ?_
  obtain ⟨H', x1, x2, x3⟩ := exn_put (top := [e, T]) hl S (by simp) ⟨[_, _], rfl, rfl⟩ k1 k2 k3 fun b o q n => ⟨o.slots, k4 b o q n⟩
  exact ⟨m, H', x2, x3, h H' x1⟩

theorem aw_leaving {Q : Unit → Lo → AH → Prop} (hh : Here A fx) (hX : Exn fx.env.locals e cls R H) (h : ∀ H', ExnT e cls .none R H' → Q () m H') : AW C A fx (leaving fx.env (.ref e)) m H Q X :=
  aw_bind (aw_note hh hX fun H' h' => aw_flight h' h)

theorem aw_back {Q : Unit → Lo → AH → Prop} (hh : Here A fx) (hX : ExnT e cls fl R H) (h : ∀ H', ExnT e cls (rawInt fx.env.locals) R H' → Q () m H') :
    AW C A fx (do
      if (← field (.ref e) 1) == .none then unsupported "frame.own-activation:exception-without-traceback"
      setFlight (.ref e) fx.env.frame) m H Q X := by
  obtain ⟨T, rfl⟩ := hX
  intro s S
  obtain ⟨oe, h1, hc, ws, a0, hd, h0, h2⟩ := S.get List.mem_cons_self
  obtain ⟨oT, h3, ts, h4, h5⟩ := S.get (List.mem_cons_of_mem _ List.mem_cons_self)
  have hTe : T ≠ e := fun q => by
    have := S.nodup
    subst q
    exact (List.nodup_cons.mp this).1 List.mem_cons_self
  refine wpAny_bind (wpAny_field h1 hd h2 ?_)
  rw [if_neg (by simp)]
  unfold setFlight
  refine wpAny_bind (wpAny_field h1 hd h2 ?_)
  rw [if_pos (show (Value.ref T != Value.none) = true from by simp)]
  refine wpAny_setField h3 h4 (Array.getElem?_eq_some_iff.mp h5).1 ?_
  rw [hh.frame]
  have other : ∀ b, b ≠ T → (s.heap.update T (Obj.mapFields (·.setIfInBounds 3 (Option.elim (some fx.env.locals) Value.none fun f => rawInt f)))).get? b = s.heap.get? b := fun b hb => Heap.get?_update_other _ _ (Ne.symm hb)
  obtain ⟨l, hl, hF⟩ := exn_frames S [e, T]
  obtain ⟨H', x1, x2, x3⟩ := exn_put (fl := rawInt fx.env.locals) (cls := cls) (a0 := a0) (h' := s.heap.update T (Obj.mapFields (·.setIfInBounds 3 (Option.elim (some fx.env.locals) Value.none fun f => rawInt f)))) hl S (e := e) (top := [e, T]) (by simp) ⟨[_, _], rfl, rfl⟩ (fun b o q => (other b fun z => by
      have y := hideAll_none (hidden A [e, T]) (h := s.heap) (b := T) (List.mem_append_left _ (by simp))
      rw [z, y] at q; cases q).trans (of_hideAll _ q))
    (hF.of_keeps fun b o q n => ⟨o, (other b fun z => by rw [z, h3] at q; cases q; exact n _ h4).trans q, rfl⟩)
    ⟨oe, ws, T, _, _, (other e (Ne.symm hTe)).trans h1, ⟨hc, h0⟩, hd, h2, hideAll_none _ (List.mem_append_left _ (by simp)), hTe, Heap.get?_update_self _ h3 (Obj.isFreed_of_fields (Obj.data_mapFields h4 _)), Obj.data_mapFields h4 _, by
      rw [Array.getElem?_setIfInBounds_self, if_pos (Array.getElem?_eq_some_iff.mp h5).1]; rfl⟩
    (fun b o q n => ⟨o.slots, (other b fun z => by rw [z, h3] at q; cases q; exact n _ h4).trans q⟩)
  exact ⟨m, H', x2, x3, h H' x1⟩
end
end Mine

namespace Mine
open PySem PySem.W PyProof.Rows
open Sem (wp)

section
variable {α : Type} {C : Cfg} {A A' : Around} {fx fx' : Fx} {m m' m₁ : Lo} {H H' H₁ R : AH} {X : Value → Lo → AH → Prop} {K : Frag} {s s' s₁ : Shared} {e : Addr} {cls fl : Value} {Q : Flow → Lo → AH → Prop}

/-! ### try and except -/
noncomputable def HB (C : Cfg) (A : Around) (fx : Fx) (e : Addr) (hs : List ExceptHandler) (m : Lo) (H : AH) (Q : Flow → Lo → AH → Prop) (X : Value → Lo → AH → Prop) : Prop := AW C A fx (handleBy (.ref e) fx.env hs) m H (fun f => Q (erF f)) X
noncomputable def tryQ (C : Cfg) (A : Around) (fx : Fx) (o : List Stmt) (Q : Flow → Lo → AH → Prop) (X : Value → Lo → AH → Prop) : Flow → Lo → AH → Prop := seqQ C A fx o Q X
noncomputable def tryX (C : Cfg) (A : Around) (fx : Fx) (hs : List ExceptHandler) (Q : Flow → Lo → AH → Prop) (X : Value → Lo → AH → Prop) : Value → Lo → AH → Prop := fun v m H =>
  ∃ e cls R, v = .ref e ∧ Exn fx.env.locals e cls R H ∧ ∀ H', ExnT e cls .none R H' → HB C A fx e hs m H' Q X
theorem ex_try {body orelse : List Stmt} {h₀ : ExceptHandler} {hs : List ExceptHandler} {pos : Pos} (hh : Here A fx) (h : EXS C A fx body m H (tryQ C A fx orelse Q X) (tryX C A fx (h₀ :: hs) Q X)) : EX C A fx (.Try body (h₀ :: hs) orelse [] pos) m H Q X := by
  intro s S
  refine wpAny_Try_except (wpAny_mono (h s S) (fun f s₁ h₁ => ?_) fun v s₁ h₁ => ?_)
  · obtain ⟨m₁, H₁, S₁, E₁, q⟩ := h₁
    cases f with
    | next =>
      refine wpAny_mono ((q : EXS C A fx orelse m₁ H₁ Q X) s₁ S₁) (fun f s₂ h₂ => ?_) fun v s₂ h₂ => ?_ <;> (obtain ⟨m₂, H₂, S₂, E₂, q⟩ := h₂; exact ⟨m₂, H₂, S₂, E₁.trans E₂, q⟩)
    | brk => exact ⟨m₁, H₁, S₁, E₁, q⟩
    | cont => exact ⟨m₁, H₁, S₁, E₁, q⟩
    | ret v => exact ⟨m₁, H₁, S₁, E₁, q⟩
  · obtain ⟨m₁, H₁, S₁, E₁, e, cls, R, rfl, hx, hb⟩ := h₁
    have step : AW C A fx (noteFrame (.ref e) fx.env) m₁ H₁ (fun _ m₂ H₂ => AW C A fx (setFlight (.ref e) none) m₂ H₂ (fun _ m₃ H₃ => HB C A fx e (h₀ :: hs) m₃ H₃ Q X) X) X := aw_note hh hx fun H' h' => aw_flight h' hb
    refine wpAny_mono (step s₁ S₁) (fun _ s₂ h₂ => ?_) fun v s₂ h₂ => ?_
    · obtain ⟨m₂, H₂, S₂, E₂, q₂⟩ := h₂
      refine wpAny_mono (q₂ s₂ S₂) (fun _ s₃ h₃ => ?_) fun v s₃ h₃ => ?_
      · obtain ⟨m₃, H₃, S₃, E₃, q₃⟩ := h₃
        refine wpAny_mono (q₃ s₃ S₃) (fun f s₄ h₄ => ?_) fun v s₄ h₄ => ?_ <;> (obtain ⟨m₄, H₄, S₄, E₄, q⟩ := h₄; exact ⟨m₄, H₄, S₄, E₁.trans (E₂.trans (E₃.trans E₄)), q⟩)
      · obtain ⟨m₃, H₃, S₃, E₃, q₃⟩ := h₃
        exact ⟨m₃, H₃, S₃, E₁.trans (E₂.trans E₃), q₃⟩
    · obtain ⟨m₂, H₂, S₂, E₂, q₂⟩ := h₂
      exact ⟨m₂, H₂, S₂, E₁.trans E₂, q₂⟩

theorem hb_builtin {Xn T : String} {t : PySem.Expr} {b₀ : Stmt} {suite : List Stmt} {pos : Pos} {rest : List ExceptHandler}
    (hX : ExnT e (.type Xn) .none R H) (hev : ∀ Q' : Value → Lo → AH → Prop, Q' (.type T) m H → EV C (A.mark (some (.ref e))) fx t m H Q' noX)
    (h : ∀ H', ExnT e (.type Xn) .none R H' → EXS C (A.mark (some (.ref e))) fx (b₀ :: suite) m H' Q noX)
    (hexc : isSubtype (.type T) (.type "BaseException") = pure true) (hnt : isSubtype (.type ((Manifest.find? T).elim "type" fun x => x.metatype)) (.type "tuple") = pure false)
    (hsub : isSubtype (.type Xn) (.type T) = pure true) : HB C A fx e (.ExceptHandler (some t) none (b₀ :: suite) pos :: rest) m H Q X := by
  intro s S
  have SM : St C (A.mark (some (.ref e))) fx m H s := S.inA rfl
  refine wpAny_handleBy_builtin hexc hnt hsub (wpAny_mono (hev (fun v m' H' => v = .type T ∧ m' = m ∧ H' = H) ⟨rfl, rfl, rfl⟩ s SM) (fun c s₁ h₁ => ?_) fun v s₁ h₁ => ?_)
  · obtain ⟨m₁, H₁, S₁, E₁, q1, rfl, rfl⟩ := h₁
    refine ⟨er_eq_type q1, ?_, ?_⟩
    · obtain ⟨T', rfl⟩ := hX
      obtain ⟨oe, h1, hc, _⟩ := S₁.get List.mem_cons_self
      exact ⟨oe, h1, hc⟩
    · rw [if_pos rfl]
      refine wpAny_mono (aw_flight (A := A.mark (some (.ref e))) (Q := fun _ m₂ H₂ => EXS C (A.mark (some (.ref e))) fx (b₀ :: suite) m₂ H₂ Q noX) (X := noX) hX h s₁ S₁) (fun _ s₂ h₂ => ?_) fun v s₂ h₂ => ?_
      · obtain ⟨m₂, H₂, S₂, E₂, q₂⟩ := h₂
        refine wpAny_mono (q₂ s₂ S₂) (fun f s₃ h₃ => ?_) fun v s₃ h₃ => ?_
        · obtain ⟨m₃, H₃, S₃, E₃, q₃⟩ := h₃
          exact ⟨m₃, H₃, S₃.inA rfl, (E₁.trans (E₂.trans E₃)).inA rfl, q₃⟩
        · obtain ⟨_, _, _, _, z⟩ := h₃; exact z.elim
      · obtain ⟨_, _, _, _, z⟩ := h₂; exact z.elim
  · obtain ⟨_, _, _, _, z⟩ := h₁; exact z.elim

structure ExcC (C : Cfg) (c : Addr) (B newId initId : String) (bmB : List Value) : Prop where
  facts : ExcBaseFacts B newId initId bmB
  obj : ∃ bm N nm q bs hdct sn sub ab col dd k0 k1 k2 k3 k5 mN, C.h₀.get? c = some (excClassObj nm q c N bs bm hdct sn sub ab col dd k0 k1 k2 k3 k5 newId) ∧ C.h₀.Ns N mN ∧ mN "__init__" = none ∧ OwnTail C.h₀ bmB bm
theorem excC {T : Top C K} {c : Addr} {x : PySem.Str} {B newId initId : String} {bmB : List Value} (e : nsIn K mainGlobals x = some (some (.ref c))) (q : excIn K c bmB newId = true) (F : ExcBaseFacts B newId initId bmB) : ExcC C c B newId initId bmB := by
  obtain ⟨p, loose, mg, mb, hT⟩ := T.read
  exact ⟨F, (own_of_in T.X hT e q).obj⟩

theorem hb_own {c : Addr} {B newId initId : String} {bmB : List Value} (F : ExcC C c B newId initId bmB) {t : PySem.Expr} {b₀ : Stmt} {suite : List Stmt} {pos : Pos} {rest : List ExceptHandler}
    (hX : ExnT e (.ref c) .none R H) (hev : ∀ Q' : Value → Lo → AH → Prop, Q' (.ref c) m H → EV C (A.mark (some (.ref e))) fx t m H Q' noX)
    (h : ∀ H', ExnT e (.ref c) .none R H' → EXS C (A.mark (some (.ref e))) fx (b₀ :: suite) m H' Q noX) : HB C A fx e (.ExceptHandler (some t) none (b₀ :: suite) pos :: rest) m H Q X := by
  intro s S
  have SM : St C (A.mark (some (.ref e))) fx m H s := S.inA rfl
  refine wpAny_handleBy_cons (codeAny_handlers_test (wpAny_mono (hev (fun v m' H' => v = .ref c ∧ m' = m ∧ H' = H) ⟨rfl, rfl, rfl⟩ s SM) (fun c' s₁ h₁ => ?_) fun v s₁ h₁ => ?_)) (by intro q; cases q)
  · obtain ⟨m₁, H₁, S₁, E₁, q1, rfl, rfl⟩ := h₁
    obtain rfl := er_eq_ref q1
    obtain ⟨bm, N, nm, q, bs, hdct, sn, sub, ab, col, dd, k0, k1, k2, k3, k5, mN, hC, hN, hni, TL⟩ := F.obj
    obtain ⟨oe, h1, hc⟩ : ∃ oe, s₁.heap.get? e = some oe ∧ oe.cls = .ref c := by
      obtain ⟨T', rfl⟩ := hX
      obtain ⟨oe, h1, hc, _⟩ := S₁.get List.mem_cons_self
      exact ⟨oe, h1, hc⟩
    obtain ⟨hp, g, d, tk, os⟩ := s₁
    refine wpAny_excMatches_sub_self (S₁.base _ _ hC) h1 hc (TL.hasType F.facts.hasBase) (codeAny_handlers_suite ?_)
    refine wpAny_mono (aw_flight (A := A.mark (some (.ref e))) (Q := fun _ m₂ H₂ => EXS C (A.mark (some (.ref e))) fx (b₀ :: suite) m₂ H₂ Q noX) (X := noX) hX h _ S₁) (fun _ s₂ h₂ => ?_) fun v s₂ h₂ => ?_
    · obtain ⟨m₂, H₂, S₂, E₂, q₂⟩ := h₂
      refine wpAny_mono (q₂ s₂ S₂) (fun f s₃ h₃ => ?_) fun v s₃ h₃ => ?_
      · obtain ⟨m₃, H₃, S₃, E₃, q₃⟩ := h₃
        exact ⟨m₃, H₃, S₃.inA rfl, (E₁.trans (E₂.trans E₃)).inA rfl, q₃⟩
      · obtain ⟨_, _, _, _, z⟩ := h₃; exact z.elim
    · obtain ⟨_, _, _, _, z⟩ := h₂; exact z.elim
  · obtain ⟨_, _, _, _, z⟩ := h₁; exact z.elim

/-! ### an own exception is raised -/
theorem ex_raise_own {c : Addr} {B newId initId : String} {bmB : List Value} (F : ExcC C c B newId initId bmB) (hA : A.handled = none) {x : PySem.Str} {np cpos pos : Pos} {args : List PySem.Expr}
    (hev : EV C A fx (.Name x np) m H (fun v m₁ H₁ => v = .ref c ∧ EVA C A fx args cpos m₁ H₁ (fun vs m₂ H₂ => vs.length ≤ 1000000 ∧ ∀ e, e ∉ H₂.keys → X (.ref e) m₂ ((e, .exc (.ref c) .none) :: H₂)) X) X)
    (hplain : (backTo cpos (starEach args fx.env)).any (·.1) = false := by rfl) : EX C A fx (.Raise (some (.Call (.Name x np) args [] cpos)) none pos) m H Q X := by
  intro s S
  obtain ⟨bm, N, nm, q, bs, hdct, sn, sub, ab, col, dd, k0, k1, k2, k3, k5, mN, hC, hN, hni, TL⟩ := F.obj
  refine wpAny_Raise_call_subT (C := c) (nm := nm) (q := q) (N := N) (bs := bs) (bm := bm) (hdct := hdct) (sn := sn) (sub := sub) (ab := ab) (col := col) (dd := dd) (k0 := k0) (k1 := k1) (k2 := k2) (k3 := k3) (k5 := k5)
    F.facts (mN := mN) (TL.hasType F.facts.hasBase) hA hplain hni (wpAny_mono (hev s S) (fun v s₁ h₁ => ?_) fun v s₁ h₁ => h₁)
  obtain ⟨m₁, H₁, S₁, E₁, q1, h₁⟩ := h₁
  refine ⟨er_eq_ref q1, wpAny_mono (h₁ (.ref c) s₁ S₁) (fun a s₂ h₂ => ?_) fun v s₂ h₂ => ?_⟩
  · obtain ⟨m₂, H₂, S₂, E₂, hkw, hlen, hX⟩ := h₂
    rw [List.length_map] at hlen
    refine ⟨hkw, by rw [sizeLine_eq]; omega, S₂.base _ _ hC, hN.keeps S₂.base, TL.keeps S₂.base, fun h' e hm => ?_⟩
    obtain ⟨t, he, htn, ht⟩ := hm.there
    obtain ⟨S₃, E₃⟩ := S₂.new (s' := { s₂ with heap := h' }) (ao := .exc (.ref c) .none) hm.new hm.keeps he ⟨rfl, _, _, rfl, rfl, rfl⟩
    exact ⟨m₂, _, S₃, E₁.trans (E₂.trans E₃), hX e fun hk => by
      obtain ⟨p, hp, rfl⟩ := List.mem_map.mp hk
      obtain ⟨o, ho, _⟩ := S₂.cells p hp
      rw [hm.new] at ho; cases ho⟩
  · obtain ⟨m₂, H₂, S₂, E₂, q⟩ := h₂
    exact ⟨m₂, H₂, S₂, E₁.trans E₂, q⟩
end
end Mine

namespace Mine
set_option maxRecDepth 100000
open PySem PySem.W PyProof.Rows
open Sem (wp)
theorem lk_list_contains : typeLookup (.type "list") "__contains__" = pure (some (.builtin "list.__contains__")) := by rw [typeLookup_type, builtinLookup_eq_fast]; kernel_rfl
theorem lk_li_next : typeLookup (.type "list_iterator") "__next__" = pure (some (.builtin "list_iterator.__next__")) := by rw [typeLookup_type, builtinLookup_eq_fast]; kernel_rfl
theorem ty_list_contains : typeOf (.builtin "list.__contains__") = pure (.type "wrapper_descriptor") := by
  simp only [typeOf, builtinType]
  rw [show withoutEnding? "list.__contains__" "#opaque" = none by decide +kernel, show withoutEnding? "list.__contains__" "#data" = none by decide +kernel, show builtinKind "list.__contains__" = some .slot by decide +kernel]
  rfl
theorem ty_li_next : typeOf (.builtin "list_iterator.__next__") = pure (.type "wrapper_descriptor") := by
  simp only [typeOf, builtinType]
  rw [show withoutEnding? "list_iterator.__next__" "#opaque" = none by decide +kernel, show withoutEnding? "list_iterator.__next__" "#data" = none by decide +kernel, show builtinKind "list_iterator.__next__" = some .slot by decide +kernel]
  rfl
theorem slot_wd_get : Slot "wrapper_descriptor" "__get__" "wrapper_descriptor.__get__" :=
  Slot.of (owner := "wrapper_descriptor") (n := "__get__") (by rw [typeLookup_type, builtinLookup_eq_fast]; kernel_rfl) (by decide +kernel) (by decide +kernel) (by decide +kernel) (.inl (by decide +kernel)) (by rw [isSubtype_type]; kernel_rfl)
theorem entry_wd_get : entryFor table "wrapper_descriptor.__get__" = some Builtin.«wrapper_descriptor.__get__» := entryFor_of_fast (by kernel_rfl)
theorem slot_li_ga : Slot "list_iterator" "__getattribute__" "object.__getattribute__" :=
  Slot.of (owner := "object") (n := "__getattribute__") (by rw [typeLookup_type, builtinLookup_eq_fast]; kernel_rfl) (by decide +kernel) (by decide +kernel) (by decide +kernel) (.inl (by decide +kernel)) (by rw [isSubtype_type]; kernel_rfl)
theorem entry_obj_ga : entryFor table "object.__getattribute__" = some Builtin.«object.__getattribute__» := entryFor_of_fast (by kernel_rfl)
theorem args_obj_ga (a b : Value) : argsOk "object.__getattribute__" ⟨[a, b], []⟩ := by unfold argsOk; kernel_rfl
theorem args_wd_get (a b c : Value) : argsOk "wrapper_descriptor.__get__" ⟨[a, b, c], []⟩ := by unfold argsOk; kernel_rfl
theorem owner_lc : (".".intercalate ("list.__contains__".cutAt '.').dropLast) = "list" := by decide +kernel
theorem sub_lc : isSubtype (.type "list") (.type (".".intercalate ("list.__contains__".cutAt '.').dropLast)) = pure true := by rw [owner_lc, isSubtype_type]; kernel_rfl
theorem owner_ln : (".".intercalate ("list_iterator.__next__".cutAt '.').dropLast) = "list_iterator" := by decide +kernel
theorem sub_ln : isSubtype (.type "list_iterator") (.type (".".intercalate ("list_iterator.__next__".cutAt '.').dropLast)) = pure true := by rw [owner_ln, isSubtype_type]; kernel_rfl
theorem lk_wd_set : typeLookup (.type "wrapper_descriptor") "__set__" = pure none := by rw [typeLookup_type, builtinLookup_eq_fast]; kernel_rfl
theorem lk_wd_del : typeLookup (.type "wrapper_descriptor") "__delete__" = pure none := by rw [typeLookup_type, builtinLookup_eq_fast]; kernel_rfl

section
variable {prog : Program} {w : World} {A : Around} {E : Value → Shared → Prop} {h : Heap} {g : Array GenState} {d : Drawn} {t : Nat} {os : OsState} {a : Addr} {o : Obj}
noncomputable def wrapObj (id : String) (a : Addr) : Obj := { cls := .type "method-wrapper", data := .fields #[.builtin id, .ref a] }
theorem cont_get {R : Result → Shared → Prop} (hx : h.get? a = some o) (hc : o.cls = .type "list") (hq : R (.ok (.ret (.ref h.objs.size))) ⟨h.push (wrapObj "list.__contains__" a), g, d, t, os⟩) :
    codeAny (model prog w) A (.call (.builtin "wrapper_descriptor.__get__") ⟨[.builtin "list.__contains__", .ref a, .type "list"], []⟩) R ⟨h, g, d, t, os⟩ := by
  have hT : (⟨h, g, d, t, os⟩ : Shared).TypeIs (.ref a) "list" := ⟨_, hx, hc⟩
  have hT5 : (⟨h, g, d, t, os⟩ : Shared).TypeIs (.builtin "list.__contains__") "wrapper_descriptor" := ty_list_contains
  have f8 := sub_lc
  refine codeAny_call_builtin slot_wd_get.plain entry_wd_get (slot_wd_get.check _ _ _ _ _ _ _ _ hT5 (args_wd_get _ _ _) ?_)
  unfold Builtin.«wrapper_descriptor.__get__»
  repeat (any_goals (first | assumption | wp_step))
theorem cont_entry {tk : Tok} {Q : Fin → Shared → Prop} (hx : h.get? a = some o) (hc : o.cls = .type "list") (hd : o.dict = none) (hdat : ∃ vs n, o.data = .seq vs n) (hq : Q (.done (.ret (.ref h.objs.size))) ⟨h.push (wrapObj "list.__contains__" a), g, d, t, os⟩) :
    wpAny (model prog w) A (Builtin.«object.__getattribute__» ⟨[.ref a, .str "__contains__" tk], []⟩) Q E ⟨h, g, d, t, os⟩ := by
  have hT : (⟨h, g, d, t, os⟩ : Shared).TypeIs (.ref a) "list" := ⟨_, hx, hc⟩
  have hT5 : (⟨h, g, d, t, os⟩ : Shared).TypeIs (.builtin "list.__contains__") "wrapper_descriptor" := ty_list_contains
  obtain ⟨vs, n, hdat⟩ := hdat
  obtain ⟨oc, od, odd, osl⟩ := o
  dsimp only at hc hd hdat
  subst hc hd hdat
  have f4 := lk_list_contains
  have f5 := ty_list_contains
  have f6 := slot_wd_get.lookup
  have f7 := lk_wd_set
  have f8 := lk_wd_del
  repeat (any_goals (first | assumption | wp_step))
  refine cont_get hx rfl ?_
  repeat (any_goals (first | assumption | wp_step))
theorem cont_by {tk : Tok} {Q : Value → Shared → Prop} (hx : h.get? a = some o) (hc : o.cls = .type "list") (hd : o.dict = none) (hdat : ∃ vs n, o.data = .seq vs n) (hq : Q (.ref h.objs.size) ⟨h.push (wrapObj "list.__contains__" a), g, d, t, os⟩) :
    wpAny (model prog w) A (getAttrBy (.ref a) (.str "__contains__" tk) true true) Q E ⟨h, g, d, t, os⟩ := by
  have hT : (⟨h, g, d, t, os⟩ : Shared).TypeIs (.ref a) "list" := ⟨_, hx, hc⟩
  have f2 := F.slot_list_getattribute.lookup
  have f3 := F.slot_list_getattribute.bind (.ref a)
  unfold getAttrBy
  repeat (any_goals (first | assumption | wp_step))
  refine codeAny_call_builtin F.slot_list_getattribute.plain F.entry_list_ga (F.slot_list_getattribute.check _ _ _ _ _ _ _ _ (show (⟨h, g, d, t, os⟩ : Shared).TypeIs (.ref a) "list" from ⟨_, hx, hc⟩) (F.args_list_getattribute_2 _ _) (cont_entry hx hc hd hdat ?_))
  repeat (any_goals (first | assumption | wp_step))
theorem cont_attr {Q : Value → Shared → Prop} (hx : h.get? a = some o) (hc : o.cls = .type "list") (hd : o.dict = none) (hdat : ∃ vs n, o.data = .seq vs n) (hq : Q (.ref h.objs.size) ⟨h.push (wrapObj "list.__contains__" a), g, d, t + 1, os⟩) :
    wpAny (model prog w) A (getAttr (.ref a) "__contains__" true) Q E ⟨h, g, d, t, os⟩ := by
  unfold getAttr
  repeat (any_goals (first | assumption | with_reducible apply cont_by hx hc hd hdat | wp_step))

theorem next_get {R : Result → Shared → Prop} (hx : h.get? a = some o) (hc : o.cls = .type "list_iterator") (hq : R (.ok (.ret (.ref h.objs.size))) ⟨h.push (wrapObj "list_iterator.__next__" a), g, d, t, os⟩) :
    codeAny (model prog w) A (.call (.builtin "wrapper_descriptor.__get__") ⟨[.builtin "list_iterator.__next__", .ref a, .type "list_iterator"], []⟩) R ⟨h, g, d, t, os⟩ := by
  have hT : (⟨h, g, d, t, os⟩ : Shared).TypeIs (.ref a) "list_iterator" := ⟨_, hx, hc⟩
  have hT5 : (⟨h, g, d, t, os⟩ : Shared).TypeIs (.builtin "list_iterator.__next__") "wrapper_descriptor" := ty_li_next
  have f8 := sub_ln
  refine codeAny_call_builtin slot_wd_get.plain entry_wd_get (slot_wd_get.check _ _ _ _ _ _ _ _ hT5 (args_wd_get _ _ _) ?_)
  unfold Builtin.«wrapper_descriptor.__get__»
  repeat (any_goals (first | assumption | wp_step))
theorem next_entry {tk : Tok} {Q : Fin → Shared → Prop} (hx : h.get? a = some o) (hc : o.cls = .type "list_iterator") (hd : o.dict = none) (hdat : ∃ vs, o.data = .fields vs) (hq : Q (.done (.ret (.ref h.objs.size))) ⟨h.push (wrapObj "list_iterator.__next__" a), g, d, t, os⟩) :
    wpAny (model prog w) A (Builtin.«object.__getattribute__» ⟨[.ref a, .str "__next__" tk], []⟩) Q E ⟨h, g, d, t, os⟩ := by
  have hT : (⟨h, g, d, t, os⟩ : Shared).TypeIs (.ref a) "list_iterator" := ⟨_, hx, hc⟩
  have hT5 : (⟨h, g, d, t, os⟩ : Shared).TypeIs (.builtin "list_iterator.__next__") "wrapper_descriptor" := ty_li_next
  obtain ⟨vs, hdat⟩ := hdat
  obtain ⟨oc, od, odd, osl⟩ := o
  dsimp only at hc hd hdat
  subst hc hd hdat
  have f4 := lk_li_next
  have f5 := ty_li_next
  have f6 := slot_wd_get.lookup
  have f7 := lk_wd_set
  have f8 := lk_wd_del
  repeat (any_goals (first | assumption | wp_step))
  refine next_get hx rfl ?_
  repeat (any_goals (first | assumption | wp_step))
theorem next_by {tk : Tok} {Q : Value → Shared → Prop} (hx : h.get? a = some o) (hc : o.cls = .type "list_iterator") (hd : o.dict = none) (hdat : ∃ vs, o.data = .fields vs) (hq : Q (.ref h.objs.size) ⟨h.push (wrapObj "list_iterator.__next__" a), g, d, t, os⟩) :
    wpAny (model prog w) A (getAttrBy (.ref a) (.str "__next__" tk) true true) Q E ⟨h, g, d, t, os⟩ := by
  have hT : (⟨h, g, d, t, os⟩ : Shared).TypeIs (.ref a) "list_iterator" := ⟨_, hx, hc⟩
  have f2 := slot_li_ga.lookup
  have f3 := slot_li_ga.bind (.ref a)
  unfold getAttrBy
  repeat (any_goals (first | assumption | wp_step))
  refine codeAny_call_builtin slot_li_ga.plain entry_obj_ga (slot_li_ga.check _ _ _ _ _ _ _ _ (show (⟨h, g, d, t, os⟩ : Shared).TypeIs (.ref a) "list_iterator" from ⟨_, hx, hc⟩) (args_obj_ga _ _) (next_entry hx hc hd hdat ?_))
  repeat (any_goals (first | assumption | wp_step))
theorem next_attr {Q : Value → Shared → Prop} (hx : h.get? a = some o) (hc : o.cls = .type "list_iterator") (hd : o.dict = none) (hdat : ∃ vs, o.data = .fields vs) (hq : Q (.ref h.objs.size) ⟨h.push (wrapObj "list_iterator.__next__" a), g, d, t + 1, os⟩) :
    wpAny (model prog w) A (getAttr (.ref a) "__next__" true) Q E ⟨h, g, d, t, os⟩ := by
  unfold getAttr
  repeat (any_goals (first | assumption | with_reducible apply next_by hx hc hd hdat | wp_step))
end
end Mine

namespace Mine
open PySem PySem.W PyProof.Rows
open Sem (wp)
open PySem.SeqAt

section
variable {α : Type} {C : Cfg} {A A' : Around} {fx fx' : Fx} {m m' m₁ : Lo} {H H' H₁ R : AH} {X : Value → Lo → AH → Prop} {K : Frag} {s s' s₁ : Shared} {e : Addr} {Q : Value → Lo → AH → Prop}
variable {I l w : Addr} {xs : List Value} {i : Nat} {v : Value}

theorem none_new (S : St C A fx m H s) {a : Addr} (h : s.heap.get? a = none) : a ∉ H.keys := fun hk => by
  obtain ⟨p, hp, rfl⟩ := List.mem_map.mp hk
  obtain ⟨o, ho, _⟩ := S.cells p hp
  rw [h] at ho; cases ho
theorem flds2 {cls a b : Value} (S : St C A fx m H s) (h : (I, AO.flds cls [a, b]) ∈ H) : ∃ o r q, s.heap.get? I = some o ∧ o.cls = cls ∧ o.dict = none ∧ o.slots = #[] ∧ o.data = .fields #[r, q] ∧ er r = a ∧ er q = b := by
  obtain ⟨o, ho, hc, ⟨h1, h2⟩, ws, hd, hw⟩ := S.get h
  obtain ⟨ls, rfl⟩ : ∃ ls, ws = List.toArray ls := ⟨ws.toList, rfl⟩
  obtain ⟨r, q, e, e1, e2⟩ := er2 hw
  simp only at e
  subst e
  exact ⟨o, r, q, ho, hc, h1, h2, hd, e1, e2⟩
theorem write2 {cls a b : Value} (S : St C A fx m H s) (h : (I, AO.flds cls [a, b]) ∈ H) {o : Obj} {r q : Value} (ho : s.heap.get? I = some o) (hc : o.cls = cls) (h1 : o.dict = none) (h2 : o.slots = #[]) (hd : o.data = .fields #[r, q]) (f : Array Value → Array Value) {a' b' : Value}
    (hf : (f #[r, q]).toList.map er = [a', b']) : St C A fx m (H.put I (.flds cls [a', b'])) { s with heap := s.heap.update I (Obj.mapFields f) } ∧ Ext A fx H s (H.put I (.flds cls [a', b'])) { s with heap := s.heap.update I (Obj.mapFields f) } := by
  obtain ⟨oc, od, odd, osl⟩ := o
  dsimp only at hc h1 h2 hd
  subst hc h1 h2 hd
  exact S.write h (Heap.SameBut.update ..) (Heap.get?_update_self _ ho rfl) ⟨rfl, ⟨rfl, rfl⟩, _, rfl, hf⟩

/-! ### an object that hands out the items of a list -/
theorem stop_new {Q : α → Lo → AH → Prop} (hA : A.handled = none) (h : ∀ e, e ∉ H.keys → X (.ref e) m ((e, .exc (.type "StopIteration") .none) :: H)) : AW C A fx (do raiseNew (← newExc (.type "StopIteration") [])) m H Q X := by
  intro s S
  refine wpAny_bind ?_
  simp only [newExc, newTuple]
  refine wpAny_bind (wpAny_newObj_type ?_ (by size_fits))
  refine wpAny_bind (m := firstArgMember _ _) (wpAny_of_eq (a := Value.none) (by first | rfl | (simp only [firstArgMember]; rfl)) ?_)
  refine wpAny_newObj_type ?_ (by size_fits)
  obtain ⟨S₁, E₁⟩ := S.keeps (s' := { s with heap := s.heap.push { cls := .type "tuple", data := .seq #[] } }) (fun b o e => Heap.get?_push_of_some _ e)
  have hn : s.heap.get? (s.heap.push { cls := .type "tuple", data := .seq #[] }).objs.size = none := none_of_le (by rw [Heap.size_push]; exact Nat.le_succ _)
  obtain ⟨S₂, E₂⟩ := S₁.push (o := { cls := .type "StopIteration", data := .fields (#[.ref s.heap.objs.size, .none, .none, .none, .bool false, .none] ++ ownMembersOf (.type "StopIteration") []) }) (ao := .exc (.type "StopIteration") .none) ⟨rfl, #[.ref s.heap.objs.size, .none, .none, .none, .bool false, .none] ++ ownMembersOf (.type "StopIteration") [], .ref s.heap.objs.size, rfl, by rw [Array.getElem?_append_left (by simp)]; rfl, by rw [Array.getElem?_append_left (by simp)]; rfl⟩
  refine wpAny_raiseNew_none hA ⟨m, _, S₂, E₁.trans E₂, h _ (none_new S hn)⟩

theorem li_item {Q : Fin → Lo → AH → Prop} (hI : (I, AO.flds (.type "list_iterator") [.ref l, vI i]) ∈ H) (hl : (l, AO.list xs) ∈ H) (hx : xs[i]? = some v) (h : ∀ r, er r = v → Q (.done (.ret r)) m (H.put I (.flds (.type "list_iterator") [.ref l, vI (i + 1 : Nat)]))) :
    AW C A fx (Builtin.«list_iterator.__next__» ⟨[.ref I], []⟩) m H Q X := by
  intro s S
  obtain ⟨o, r, q, ho, hc, h1, h2, hd, er1, er2⟩ := flds2 S hI
  obtain rfl := er_eq_ref er1
  obtain ⟨t, rfl⟩ := er_eq_int er2
  obtain ⟨vs, ⟨ol, hol, hlc, nl, hdl⟩, hvs⟩ := S.isList hl
  obtain ⟨r, e1, e2⟩ := er_get hvs hx
  show wpAny _ _ (field (.ref I) 0 >>= _) _ _ s
  refine wpAny_bind (wpAny_field ho hd (x := .ref l) rfl ?_)
  show wpAny _ _ (if (Value.ref l == Value.none) = true then _ else _) _ _ s
  rw [if_neg (show ¬ ((Value.ref l == Value.none) = true) from Bool.false_ne_true)]
  show wpAny _ _ (field (.ref I) 1 >>= _) _ _ s
  refine wpAny_bind (wpAny_field ho hd (x := .int i t) rfl ?_)
  show wpAny _ _ (seqItems? (.ref l) >>= _) _ _ s
  refine wpAny_bind (wpAny_seqItems hol hdl ?_)
  simp only [Int.toNat_natCast, e1]
  obtain ⟨S', E'⟩ := write2 S hI ho hc h1 h2 hd (·.setIfInBounds 1 (rawInt ((i : Int) + 1))) (a' := .ref l) (b' := vI (i + 1 : Nat)) (by simp [rawInt])
  exact wpAny_bind (wpAny_setField ho hd (by simp) (wpAny_pure ⟨m, _, S', E', h r e2⟩))
theorem li_end {Q : Fin → Lo → AH → Prop} (hA : A.handled = none) (hI : (I, AO.flds (.type "list_iterator") [.ref l, vI i]) ∈ H) (hl : (l, AO.list xs) ∈ H) (hx : xs[i]? = none)
    (h : ∀ e, e ∉ H.keys → X (.ref e) m ((e, .exc (.type "StopIteration") .none) :: H.put I (.flds (.type "list_iterator") [.none, vI i]))) : AW C A fx (Builtin.«list_iterator.__next__» ⟨[.ref I], []⟩) m H Q X := by
  intro s S
  obtain ⟨o, r, q, ho, hc, h1, h2, hd, er1, er2⟩ := flds2 S hI
  obtain rfl := er_eq_ref er1
  obtain ⟨t, rfl⟩ := er_eq_int er2
  obtain ⟨vs, ⟨ol, hol, hlc, nl, hdl⟩, hvs⟩ := S.isList hl
  have e1 : vs[i]? = none := by
    have hsz := size_of_er hvs
    have := List.getElem?_eq_none_iff.mp hx
    exact Array.getElem?_eq_none_iff.mpr (by omega)
  show wpAny _ _ (field (.ref I) 0 >>= _) _ _ s
  refine wpAny_bind (wpAny_field ho hd (x := .ref l) rfl ?_)
  show wpAny _ _ (if (Value.ref l == Value.none) = true then _ else _) _ _ s
  rw [if_neg (show ¬ ((Value.ref l == Value.none) = true) from Bool.false_ne_true)]
  show wpAny _ _ (field (.ref I) 1 >>= _) _ _ s
  refine wpAny_bind (wpAny_field ho hd (x := .int i t) rfl ?_)
  show wpAny _ _ (seqItems? (.ref l) >>= _) _ _ s
  refine wpAny_bind (wpAny_seqItems hol hdl ?_)
  simp only [Int.toNat_natCast, e1]
  obtain ⟨S', E'⟩ := write2 S hI ho hc h1 h2 hd (·.setIfInBounds 0 .none) (a' := .none) (b' := vI i) (by simp)
  refine wpAny_bind (wpAny_rule (wpAny_bind (wpAny_setField ho hd (by simp) ?_)))
  refine wpAny_mono (stop_new (α := PySem.Fin) (Q := Q) (X := X) hA (fun e he => h e (by rwa [AH.keys_put] at he)) _ S') (fun _ s₂ h₂ => ?_) fun v s₂ h₂ => ?_ <;> (obtain ⟨m₂, H₂, S₂, E₂, q⟩ := h₂; exact ⟨m₂, H₂, S₂, E'.trans E₂, q⟩)

/-! ### calls of a wrapped slot -/
noncomputable def callR (C : Cfg) (A : Around) (fx : Fx) (H : AH) (s : Shared) (Q : Value → Lo → AH → Prop) (X : Value → Lo → AH → Prop) : Result → Shared → Prop := fun r s' => match r with
  | .ok (.ret v) => ∃ m' H', St C A fx m' H' s' ∧ Ext A fx H s H' s' ∧ Q (er v) m' H'
  | .ok _ => False
  | .error e => ∃ m' H', St C A fx m' H' s' ∧ Ext A fx H s H' s' ∧ X e m' H'
theorem call_wrap {id : String} {b : Builtin} (hw : (w, AO.flds (.type "method-wrapper") [.builtin id, .ref I]) ∈ H) (hc : ∀ vs : List Value, vs.map er = xs → checkBoundCall id ⟨.ref I :: vs, []⟩ = pure ()) (hp : plainId id = true) (hb : entryFor table id = some b)
    (h : ∀ vs s, vs.map er = xs → St C A fx m H s → wpAny (model C.prog C.w) A.in1 (b ⟨.ref I :: vs, []⟩) (fun fin s' => match fin with
      | .done f => callR C A fx H s Q X (.ok f) s'
      | .again c' => c'.quiet = true ∧ codeAny (model C.prog C.w) A c' (callR C A fx H s Q X) s') (fun e s' => callR C A fx H s Q X (.error e) s') s) : CALLC C A fx (.ref w) xs m H Q X := by
  intro g vs hg hvs s S
  obtain rfl := er_eq_ref hg
  obtain ⟨o, r, q, ho, hc', h1, h2, hd, e1, e2⟩ := flds2 S hw
  obtain rfl := er_eq_builtin e1
  obtain rfl := er_eq_ref e2
  have hchk := hc vs hvs
  have hfin := h vs s hvs S
  show codeAny _ _ _ (callR C A fx H s Q X) s
  refine codeAny_of_tree ?_
  show wpAny _ _ (callAny (.ref w) _) _ _ _
  unfold callAny
  refine wpAny_bind (wpAny_load ho ?_)
  rw [hd]
  dsimp only
  rw [hc', if_pos (by decide)]
  refine wpAny_ite_split (fun _ => ?_) (fun z => absurd rfl z)
  refine wpAny_bind (wpAny_of_eq hchk ?_)
  refine wpAny_pure ⟨plainId_quiet hp _, codeAny_builtin hb ?_⟩
  rw [Around.under_plainId hp]
  exact hfin
theorem aw_callR {t : Sem Fin} {A' : Around} (hfr : A'.frames = A.frames) (S : St C A fx m H s) (h : AW C A' fx t m H (fun fin m' H' => ∃ r, fin = .done (.ret r) ∧ Q (er r) m' H') X) :
    wpAny (model C.prog C.w) A' t (fun fin s' => match fin with
      | .done f => callR C A fx H s Q X (.ok f) s'
      | .again c' => c'.quiet = true ∧ codeAny (model C.prog C.w) A c' (callR C A fx H s Q X) s') (fun e s' => callR C A fx H s Q X (.error e) s') s := by
  refine wpAny_mono (h s (S.inA hfr)) (fun fin s' h' => ?_) fun v s' h' => ?_
  · obtain ⟨m', H', S', E', r, rfl, q⟩ := h'
    exact ⟨m', H', S'.inA hfr.symm, E'.inA hfr.symm, q⟩
  · obtain ⟨m', H', S', E', q⟩ := h'
    exact ⟨m', H', S'.inA hfr.symm, E'.inA hfr.symm, q⟩

theorem chk_next (I : Addr) : checkBoundCall "list_iterator.__next__" ⟨[.ref I], []⟩ = pure () := by kernel_rfl
theorem chk_contains (l : Addr) (x : Value) : checkBoundCall "list.__contains__" ⟨[.ref l, x], []⟩ = pure () := by kernel_rfl
theorem er0 {vs : List Value} (h : vs.map er = []) : vs = [] := List.map_eq_nil_iff.mp h
theorem call_wnext (hw : (w, AO.flds (.type "method-wrapper") [.builtin "list_iterator.__next__", .ref I]) ∈ H) (hI : (I, AO.flds (.type "list_iterator") [.ref l, vI i]) ∈ H) (hl : (l, AO.list xs) ∈ H) (hx : xs[i]? = some v)
    (h : Q v m (H.put I (.flds (.type "list_iterator") [.ref l, vI (i + 1 : Nat)]))) : CALLC C A fx (.ref w) [] m H Q X :=
  call_wrap hw (fun vs hvs => by obtain rfl := er0 hvs; exact chk_next I) slot_listiter_next.plain entry_listiter_next fun vs s hvs S => by
    obtain rfl := er0 hvs
    exact aw_callR rfl S (li_item hI hl hx fun r hr => ⟨r, rfl, by rw [hr]; exact h⟩)
theorem call_wnext_end (hA : A.handled = none) (hw : (w, AO.flds (.type "method-wrapper") [.builtin "list_iterator.__next__", .ref I]) ∈ H) (hI : (I, AO.flds (.type "list_iterator") [.ref l, vI i]) ∈ H) (hl : (l, AO.list xs) ∈ H) (hx : xs[i]? = none)
    (h : ∀ e, e ∉ H.keys → X (.ref e) m ((e, .exc (.type "StopIteration") .none) :: H.put I (.flds (.type "list_iterator") [.none, vI i]))) : CALLC C A fx (.ref w) [] m H Q X :=
  call_wrap hw (fun vs hvs => by obtain rfl := er0 hvs; exact chk_next I) slot_listiter_next.plain entry_listiter_next fun vs s hvs S => by
    obtain rfl := er0 hvs
    exact aw_callR rfl S (li_end hA hI hl hx h)

/-! ### iter, next -/
theorem call_iter_l (hl : (l, AO.list xs) ∈ H) (h : ∀ I, I ∉ H.keys → Q (.ref I) m ((I, .flds (.type "list_iterator") [.ref l, vI 0]) :: H)) : CALL C A fx (.builtin "iter") [.ref l] m H Q X := fun g vs hg hvs => by
  obtain rfl := er_eq_builtin hg
  obtain ⟨a, rfl, ha⟩ := er1 hvs
  obtain rfl := er_eq_ref ha
  intro s S
  obtain ⟨vs, h1, h2⟩ := S.isList hl
  refine PySem.Calls.call_function_entry (by decide +kernel) (by decide +kernel) kdk_entry_iter (kdk_args_iter _) ?_
  unfold Builtin.«iter»
  refine wpAny_bind (m := someArgs "iter" 1 2 _) (wpAny_of_eq (a := [Value.ref l]) (by first | rfl | kernel_rfl!) ?_)
  show wpAny _ _ (pyIter (.ref l) >>= _) _ _ _
  refine wpAny_bind (wpAny_pyIter_list h1 ?_)
  obtain ⟨S', E'⟩ := S.push (o := { cls := .type "list_iterator", data := .fields #[.ref l, .int 0 0] }) (ao := .flds (.type "list_iterator") [.ref l, vI 0]) ⟨rfl, ⟨rfl, rfl⟩, _, rfl, rfl⟩
  exact wpAny_pure ⟨_, rfl, m, _, S', E', h _ (none_new S (none_of_le (Nat.le_refl _)))⟩
theorem next_core (hI : (I, AO.flds (.type "list_iterator") [.ref l, vI i]) ∈ H) (h : AW C A.in1.in1 fx (Builtin.«list_iterator.__next__» ⟨[.ref I], []⟩) m H (fun fin m' H' => ∃ r, fin = .done (.ret r) ∧ Q (er r) m' H') X) : CALL C A fx (.builtin "next") [.ref I] m H Q X := fun g vs hg hvs => by
  obtain rfl := er_eq_builtin hg
  obtain ⟨a, rfl, ha⟩ := er1 hvs
  obtain rfl := er_eq_ref ha
  intro s S
  obtain ⟨o, r, q, ho, hc, h1, h2, hd, er1, er2⟩ := flds2 S hI
  have hT : s.TypeIs (.ref I) "list_iterator" := ⟨o, ho, hc⟩
  refine PySem.Calls.call_function_entry (by decide +kernel) (by decide +kernel) kdk_entry_next (kdk_args_next _) ?_
  unfold Builtin.«next»
  refine wpAny_bind (m := someArgs "next" 1 2 _) (wpAny_of_eq (a := [Value.ref I]) (by first | rfl | kernel_rfl!) ?_)
  dsimp only
  refine wpAny_bind (wpAny_specialOf (name := Str.ofString "__next__") hT slot_listiter_next.lookup ?_)
  refine wpAny_ite_split (fun hab => absurd hab (by decide)) (fun _ => ?_)
  refine wpAny_bind (wpAny_callSpecial?_slot (name := Str.ofString "__next__") hT slot_listiter_next (wpAny_call_entry slot_listiter_next hT entry_listiter_next ?_ (args_listiter_next _)))
  refine wpAny_mono (h s (S.inA rfl)) (fun fin s' h' => ?_) fun v s' h' => ?_
  · obtain ⟨m', H', S', E', r, rfl, q⟩ := h'
    exact ⟨r, rfl, wpAny_pure ⟨_, rfl, m', H', S'.inA rfl, E'.inA rfl, q⟩⟩
  · obtain ⟨m', H', S', E', q⟩ := h'
    exact ⟨m', H', S'.inA rfl, E'.inA rfl, q⟩
theorem call_next (hI : (I, AO.flds (.type "list_iterator") [.ref l, vI i]) ∈ H) (hl : (l, AO.list xs) ∈ H) (hx : xs[i]? = some v) (h : Q v m (H.put I (.flds (.type "list_iterator") [.ref l, vI (i + 1 : Nat)]))) : CALL C A fx (.builtin "next") [.ref I] m H Q X :=
  next_core hI (li_item hI hl hx fun r hr => ⟨r, rfl, by rw [hr]; exact h⟩)
theorem call_next_end (hA : A.handled = none) (hI : (I, AO.flds (.type "list_iterator") [.ref l, vI i]) ∈ H) (hl : (l, AO.list xs) ∈ H) (hx : xs[i]? = none)
    (h : ∀ e, e ∉ H.keys → X (.ref e) m ((e, .exc (.type "StopIteration") .none) :: H.put I (.flds (.type "list_iterator") [.none, vI i]))) : CALL C A fx (.builtin "next") [.ref I] m H Q X :=
  next_core hI (li_end hA hI hl hx h)

/-! ### bound slots -/
theorem ga_wnext {a b : Value} (hI : (I, AO.flds (.type "list_iterator") [a, b]) ∈ H) (h : ∀ w, w ∉ H.keys → Q (.ref w) m ((w, .flds (.type "method-wrapper") [.builtin "list_iterator.__next__", .ref I]) :: H)) : GA C A fx (.ref I) "__next__" m H Q X := fun x hx => by
  obtain rfl := er_eq_ref hx
  intro s S
  obtain ⟨o, r, q, ho, hc, h1, h2, hd, _, _⟩ := flds2 S hI
  obtain ⟨S', E'⟩ := S.push (o := wrapObj "list_iterator.__next__" I) (ao := .flds (.type "method-wrapper") [.builtin "list_iterator.__next__", .ref I]) ⟨rfl, ⟨rfl, rfl⟩, _, rfl, rfl⟩
  obtain ⟨hp, g, d, tk, os⟩ := s
  have S₂ := S'.toks (tk + 1)
  exact next_attr ho hc h1 ⟨_, hd⟩ ⟨m, _, S₂.1, E'.trans S₂.2, h _ (none_new S (none_of_le (Nat.le_refl _)))⟩
theorem ga_wcontains (hl : (l, AO.list xs) ∈ H) (h : ∀ w, w ∉ H.keys → Q (.ref w) m ((w, .flds (.type "method-wrapper") [.builtin "list.__contains__", .ref l]) :: H)) : GA C A fx (.ref l) "__contains__" m H Q X := fun x hx => by
  obtain rfl := er_eq_ref hx
  intro s S
  obtain ⟨o, ho, hc, ⟨h1, h2⟩, vs, n, hd, hv⟩ := S.get hl
  obtain ⟨S', E'⟩ := S.push (o := wrapObj "list.__contains__" l) (ao := .flds (.type "method-wrapper") [.builtin "list.__contains__", .ref l]) ⟨rfl, ⟨rfl, rfl⟩, _, rfl, rfl⟩
  obtain ⟨hp, g, d, tk, os⟩ := s
  have S₂ := S'.toks (tk + 1)
  exact cont_attr ho hc h1 ⟨_, _, hd⟩ ⟨m, _, S₂.1, E'.trans S₂.2, h _ (none_new S (none_of_le (Nat.le_refl _)))⟩

/-! ### equality of abstract values -/
noncomputable def EQV (C : Cfg) (H : AH) (x y : Value) (b : Bool) : Prop := ∀ A fx m s, St C A fx m H s → A.units + 64 < cLine → ∀ a a', er a = x → er a' = y → EqAt A s a a' b
theorem EQV.int (i j : Int) : EQV C H (vI i) (vI j) (i == j) := fun A fx m s S _ a a' ha ha' => by
  obtain ⟨t, rfl⟩ := er_eq_int ha
  obtain ⟨u, rfl⟩ := er_eq_int ha'
  exact EqAt.int_int i t j u
theorem call_wcontains {e : Value → Bool} {ys : List Value} {x : Value} (hA : A.units + 70 < cLine) (hw : (w, AO.flds (.type "method-wrapper") [.builtin "list.__contains__", .ref l]) ∈ H) (hl : (l, AO.list ys) ∈ H) (he : ∀ y ∈ ys, EQV C H y x (e y)) (h : Q (.bool (ys.any e)) m H) :
    CALLC C A fx (.ref w) [x] m H Q X :=
  call_wrap hw (fun vs hvs => by obtain ⟨a, rfl, _⟩ := er1 hvs; exact chk_contains l a) PySem.F.slot_list_contains.plain PySem.F.entry_list_contains fun vs s hvs S => by
    obtain ⟨a, rfl, ha⟩ := er1 hvs
    obtain ⟨o, ho, hc, ⟨h1, h2⟩, us, n, hd, hu⟩ := S.get hl
    obtain ⟨oc, od, odd, osl⟩ := o
    dsimp only at hc h1 h2 hd
    subst hc h1 h2 hd
    refine (list_containsAt l us n none #[] a (fun r => e (er r))) C.prog C.w A (callR C A fx H s Q X) s ⟨ho, fun r hr => ?_, m, H, S, Ext.refl' S, ?_⟩
    · exact he (er r) (by rw [← hu]; exact List.mem_map_of_mem (by simpa using hr)) A.in1 fx m s (S.inA rfl) (by show A.units + _ + 64 < cLine; omega) r a rfl ha
    · show Q (.bool _) m H
      have : us.any (fun r => e (er r)) = ys.any e := by rw [← hu, List.any_map, ← Array.any_toList]; rfl
      rw [this]; exact h
end
end Mine

namespace Mine
open PySem PySem.W PyProof.Rows
open Sem (wp)

section
variable {α : Type} {C : Cfg} {A A' : Around} {fx fx' : Fx} {m m' m₁ : Lo} {H H' H₁ R : AH} {X : Value → Lo → AH → Prop} {K : Frag} {s s' s₁ : Shared} {e : Addr} {Q : Value → Lo → AH → Prop}
variable {x dx cl f D : Addr} {fs : List (PySem.Str × Value)} {sl : List (Option Value)} {xs : List Value}

/-! ### an own class as an iterator -/
noncomputable def ownIn (K : Frag) (cl : Addr) (n : PySem.Str) (f : Addr) : Bool := findIn K (.ref cl) n == some (some (.ref f)) && typeIn K (.ref f) == some (.type "function")

theorem aw_iter_own {T : Top C K} {g : Value} (hi : ownIn K cl "__iter__" f = true) (hn : findIn K (.ref cl) "__next__" = some (some g)) (hx : (x, AO.inst cl (some dx) sl) ∈ H) (hd : (dx, AO.ns fs) ∈ H)
    (h : CALL C A fx (.ref f) [.ref x] m H (fun v m' H' => v = .ref x ∧ (∃ sl', (x, AO.inst cl (some dx) sl') ∈ H') ∧ (∃ fs', (dx, AO.ns fs') ∈ H') ∧ Q (.ref x) m' H') X) : AW C A fx (pyIter (.ref x)) m H (fun v => Q (er v)) X := by
  intro s S
  obtain ⟨ox, od, I, h2, h3, h4, h5⟩ := S.inst hx hd
  unfold ownIn at hi
  simp only [Bool.and_eq_true, beq_iff_eq] at hi
  obtain ⟨k1, k2⟩ := hi
  have KX := T.X.keeps S.base
  have key : wpAny (model C.prog C.w) A (call (.ref f) [.ref x]) (fun v s' => v = .ref x ∧ wpAny (model C.prog C.w) A (specialOf v "__next__") (fun r s₂ => match r with
      | none => False
      | some _ => ∃ m' H', St C A fx m' H' s₂ ∧ Ext A fx H s H' s₂ ∧ Q (er v) m' H')
      (fun e s' => ∃ m' H', St C A fx m' H' s' ∧ Ext A fx H s H' s' ∧ X e m' H') s') (fun e s' => ∃ m' H', St C A fx m' H' s' ∧ Ext A fx H s H' s' ∧ X e m' H') s := by
    refine wpAny_mono (h (.ref f) [.ref x] rfl rfl s S) (fun v s' h' => ?_) fun _ _ z => z
    obtain ⟨m', H', S', E', q1, ⟨sl', hx'⟩, ⟨fs', hd'⟩, q⟩ := h'
    obtain rfl := er_eq_ref q1
    obtain ⟨ox', od', I', _⟩ := S'.inst hx' hd'
    exact ⟨rfl, wpAny_bind (I'.type.here ((looks_findIn (T.X.keeps S'.base) hn).here ⟨m', H', S', E', q⟩))⟩
  have one : ∀ refuse : Sem Value, wpAny (model C.prog C.w) A (callSpecialIfBoundUnlessNone? (.ref x) "__iter__" refuse) (fun r s' => ∃ v, r = some v ∧ v = .ref x ∧ wpAny (model C.prog C.w) A (specialOf v "__next__") (fun r s₂ => match r with
      | none => False
      | some _ => ∃ m' H', St C A fx m' H' s₂ ∧ Ext A fx H s H' s₂ ∧ Q (er v) m' H')
      (fun e s' => ∃ m' H', St C A fx m' H' s' ∧ Ext A fx H s H' s' ∧ X e m' H') s') (fun e s' => ∃ m' H', St C A fx m' H' s' ∧ Ext A fx H s H' s' ∧ X e m' H') s := by
    intro refuse
    simp only [callSpecialIfBoundUnlessNone?, bindSpecialIfBound?]
    refine wpAny_holding (wpAny_bind (wpAny_bind (wpAny_bind (I.type.here ((looks_findIn KX k1).here ?_)))))
    refine wpAny_bind (wpAny_askSetting (wpAny_ite ?_))
    have fin : wpAny (model C.prog C.w) A (if (Value.ref f == Value.none) = true then (refuse >>= fun v => pure (some v)) else (call (.ref f) [.ref x] >>= fun v => pure (some v)))
      (fun r s' => ∃ v, r = some v ∧ v = .ref x ∧ wpAny (model C.prog C.w) A (specialOf v "__next__") (fun r s₂ => match r with
      | none => False
      | some _ => ∃ m' H', St C A fx m' H' s₂ ∧ Ext A fx H s H' s₂ ∧ Q (er v) m' H')
      (fun e s' => ∃ m' H', St C A fx m' H' s' ∧ Ext A fx H s H' s' ∧ X e m' H') s') (fun e s' => ∃ m' H', St C A fx m' H' s' ∧ Ext A fx H s H' s' ∧ X e m' H') s := by
      rw [if_neg (show ¬ ((Value.ref f == Value.none) = true) from Bool.false_ne_true)]
      exact wpAny_bind (wpAny_mono key (fun v s' h' => wpAny_pure ⟨v, rfl, h'⟩) fun _ _ z => z)
    split
    · exact wpAny_bind ((bind_fn KX _ k2).here (wpAny_pure (by exact fin)))
    · exact wpAny_tryCatch (wpAny_bind ((bind_fn KX _ k2).here (wpAny_pure (by exact fin))))
  unfold pyIter
  refine wpAny_bind (wpAny_bind (I.type.here ((looks_findIn KX k1).here ?_)))
  show wpAny _ _ (callSpecialIfBoundUnlessNone? (.ref x) "__iter__" _ >>= _) _ _ s
  refine wpAny_bind (wpAny_mono (one _) (fun r s' hr => ?_) fun _ _ z => z)
  obtain ⟨v, rfl, rfl, hv⟩ := hr
  refine wpAny_bind (wpAny_mono hv (fun r s₂ h₂ => ?_) fun _ _ z => z)
  cases r with
  | none => exact h₂.elim
  | some g => exact wpAny_pure h₂

theorem isSub_stop : isSubtype (.type "StopIteration") (.type "StopIteration") = pure true := isSubtype_stop
theorem aw_next_own {T : Top C K} {Qs : Value → Lo → AH → Prop} {Qn : Lo → AH → Prop} (hn : ownIn K cl "__next__" f = true) (hx : (x, AO.inst cl (some dx) sl) ∈ H) (hd : (dx, AO.ns fs) ∈ H)
    (h : CALL C A fx (.ref f) [.ref x] m H Qs (fun v m' H' => ∃ e R fl, v = .ref e ∧ ExnT e (.type "StopIteration") fl R H' ∧ Qn m' R)) : AW C A fx (pyNext (.ref x)) m H (fun r m' H' => match r with | some v => Qs (er v) m' H' | none => Qn m' H') X := by
  intro s S
  obtain ⟨ox, od, I, h2, h3, h4, h5⟩ := S.inst hx hd
  unfold ownIn at hn
  simp only [Bool.and_eq_true, beq_iff_eq] at hn
  obtain ⟨k1, k2⟩ := hn
  unfold pyNext
  refine wpAny_bind (wpAny_attempt (special_fn (name := "__next__") (args := []) (T.X.keeps S.base) I k1 k2 (wpAny_mono (h (.ref f) [.ref x] rfl rfl s S) (fun v s' h' => ?_) fun v s' h' => ?_)))
  · obtain ⟨m', H', S', E', q⟩ := h'
    exact wpAny_pure ⟨m', H', S', E', q⟩
  · obtain ⟨m', H', S', E', e, R, fl, rfl, ⟨T', rfl⟩, q⟩ := h'
    obtain ⟨oe, h1, hc, _⟩ := S'.get List.mem_cons_self
    have hT : s'.TypeIs (.ref e) "StopIteration" := ⟨oe, h1, hc⟩
    refine wpAny_bind (wpAny_isInstance hT isSub_stop ?_)
    rw [if_pos rfl]
    obtain ⟨S₂, E₂⟩ := S'.sub (H' := R) (fun p hp => List.mem_cons_of_mem _ (List.mem_cons_of_mem _ hp)) (List.nodup_cons.mp (List.nodup_cons.mp S'.nodup).2).2
    exact wpAny_pure ⟨m', R, S₂, E'.trans E₂, q⟩

/-! ### list(x) of an own iterator -/
noncomputable def updR (C : Cfg) (A : Around) (fx : Fx) (H : AH) (s : Shared) (Fi : Lo → AH → Prop) (X : Value → Lo → AH → Prop) (res : Value) : Result → Shared → Prop := fun r s' => match r with
  | .ok (.ret v) => v = res ∧ ∃ m' H', St C A fx m' H' s' ∧ Ext A fx H s H' s' ∧ Fi m' H'
  | .ok _ => False
  | .error e => ∃ m' H', St C A fx m' H' s' ∧ Ext A fx H s H' s' ∧ X e m' H'
theorem ext_loop {res : Value} {Fi : Lo → AH → Prop} {H₀ : AH} {s₀ : Shared} (J : Nat → Lo → AH → Prop)
    (turn : ∀ n m H, J n m H → AW C A.in1 fx (pyNext (.ref x)) m H (fun r m' H' => match r with
      | none => Fi m' H'
      | some v => ∃ acc k, k < n ∧ (D, AO.list acc) ∈ H' ∧ acc.length < 1000000 ∧ J k m' (H'.put D (.list (acc ++ [er v])))) X) :
    ∀ n m H s, J n m H → St C A fx m H s → Ext A fx H₀ s₀ H s → codeAny (model C.prog C.w) A (.builtin "list.extend.loop" ⟨[.ref D, .ref x, res], []⟩) (updR C A fx H₀ s₀ Fi X res) s := by
  intro n
  induction n using Nat.strongRecOn with
  | ind n ih =>
    intro m H s hJ S E
    refine codeAny_builtin F.entry_extend_loop ?_
    rw [Around.under_plainId F.plain_extend_loop _]
    show wpAny _ A.in1 (pyNext (.ref x) >>= _) _ _ s
    refine wpAny_bind (wpAny_mono (turn n m H hJ s (S.inA rfl)) (fun r s₁ h₁ => ?_) fun v s₁ h₁ => ?_)
    · obtain ⟨m₁, H₁, S₁, E₁, q⟩ := h₁
      cases r with
      | none => exact wpAny_pure ⟨rfl, m₁, H₁, S₁.inA rfl, E.trans (E₁.inA rfl), q⟩
      | some v =>
        obtain ⟨acc, k, hk, hD, hz, q⟩ := q
        obtain ⟨vs, c, h1, h2⟩ := S₁.isL hD
        have hsz := size_of_er h2
        obtain ⟨S₂, E₂⟩ := write_list S₁ hD h1 (·.push v) (ys := acc ++ [er v]) (by rw [Array.toList_push, List.map_append, h2]; rfl) s₁.toks
        show wpAny _ A.in1 (updateSeq D (·.push v) >>= _) _ _ _
        refine wpAny_bind (wpAny_updateSeq h1 rfl (wpAny_pure ⟨plainId_quiet F.plain_extend_loop _, ?_⟩) (by rw [hsz, sizeLine_eq]; omega) (by rw [Array.size_push, hsz, sizeLine_eq]; omega))
        exact ih k hk m₁ _ _ q (S₂.inA rfl) (E.trans ((E₁.trans E₂).inA rfl))
    · obtain ⟨m₁, H₁, S₁, E₁, q⟩ := h₁
      exact ⟨m₁, H₁, S₁.inA rfl, E.trans (E₁.inA rfl), q⟩

noncomputable def noLen (K : Frag) (cl : Addr) : Bool := findIn K (.ref cl) "__len__" == some none && findIn K (.ref cl) "__length_hint__" == some none
theorem call_list_own {T : Top C K} {g : Value} (J : Addr → Nat → Lo → AH → Prop) (n : Nat) (hi : ownIn K cl "__iter__" f = true) (hn : findIn K (.ref cl) "__next__" = some (some g)) (hl : noLen K cl = true) (hx : (x, AO.inst cl (some dx) sl) ∈ H) (hd : (dx, AO.ns fs) ∈ H)
    (h0 : ∀ D, D ∉ H.keys → CALL C A.in1.in1 fx (.ref f) [.ref x] m ((D, .list []) :: H) (fun v m' H' => v = .ref x ∧ (∃ sl', (x, AO.inst cl (some dx) sl') ∈ H') ∧ (∃ fs', (dx, AO.ns fs') ∈ H') ∧ (D, .list []) ∈ H' ∧ J D n m' (H'.put D (.list []))) X)
    (turn : ∀ D, D ∉ H.keys → ∀ n m H, J D n m H → AW C A.in1.in1 fx (pyNext (.ref x)) m H (fun r m' H' => match r with
      | none => Q (.ref D) m' H'
      | some v => ∃ acc k, k < n ∧ (D, AO.list acc) ∈ H' ∧ acc.length < 1000000 ∧ J D k m' (H'.put D (.list (acc ++ [er v])))) X) : CALL C A fx (.type "list") [.ref x] m H Q X := fun g' vs hg hvs => by
  obtain rfl := er_eq_type hg
  obtain ⟨a, rfl, ha⟩ := er1 hvs
  obtain rfl := er_eq_ref ha
  intro s S
  have hD : s.heap.objs.size ∉ H.keys := none_new S (none_of_le (Nat.le_refl _))
  obtain ⟨S₁, E₁⟩ := S.push (o := { cls := .type "list", data := .seq #[] }) (ao := .list []) ⟨rfl, ⟨rfl, rfl⟩, _, _, rfl, rfl⟩
  unfold noLen at hl
  simp only [Bool.and_eq_true, beq_iff_eq] at hl
  obtain ⟨l1, l2⟩ := hl
  generalize hDe : s.heap.objs.size = D at *
  refine callType_codes (Q₁ := fun obj s₁ => obj = .ref D ∧ s₁ = { s with heap := s.heap.push { cls := .type "list", data := .seq #[] } }) F.called_list (F.typeCall_list_1 _) F.entry_list_init
    (code_list_new _ ⟨by rw [hDe], rfl⟩) fun obj s₁ h₁ => ?_
  obtain ⟨rfl, rfl⟩ := h₁
  obtain ⟨vs₀, c₀, g1, g2⟩ := S₁.isL List.mem_cons_self
  refine ⟨⟨_, g1, rfl⟩, F.args_list_init_2 _ _, ?_⟩
  show wpAny _ A.in1.in1 (do let old ← Builtin.List.listItems (.ref D); Builtin.List.listUpdate (.ref D) (fun _ => #[]); letGo old.toList.reverse; Builtin.List.listExtendWith (.ref D) (.ref x) .none) _ _ _
  have hsz₀ := size_of_er g2
  refine wpAny_bind ?_
  unfold Builtin.List.listItems
  refine wpAny_bind (wpAny_seqItems g1 rfl (wpAny_pure ?_))
  show wpAny _ A.in1.in1 (updateSeq D (fun _ => #[]) >>= fun _ => letGo vs₀.toList.reverse >>= fun _ => Builtin.List.listExtendWith (.ref D) (.ref x) .none) _ _ _
  refine wpAny_bind (wpAny_updateSeq g1 rfl ?_ (by rw [hsz₀, sizeLine_eq]; simp) (by rw [sizeLine_eq]; simp))
  obtain ⟨S₂, E₂⟩ := write_list S₁ List.mem_cons_self g1 (fun _ => #[]) (ys := []) rfl s.toks
  have hput : AH.put ((D, AO.list []) :: H) D (.list []) = (D, .list []) :: H := by
    unfold AH.put
    rw [List.map_cons, if_pos rfl]
    congr 1
    rw [List.map_congr_left (g := id), List.map_id]
    intro p hp
    exact if_neg fun q => hD (by rw [← q]; exact mem_keys hp)
  rw [hput] at S₂ E₂
  refine wpAny_bind (wpAny_letGo ?_)
  unfold Builtin.List.listExtendWith
  have hxD : x ≠ D := fun q => hD (q ▸ mem_keys hx)
  obtain ⟨ox, od, I, _⟩ := S₂.inst (List.mem_cons_of_mem _ hx) (List.mem_cons_of_mem _ hd)
  refine wpAny_bind (I.type.here ?_)
  have h1 : Builtin.List.listSameRef (.ref D) (.ref x) = false := by simp [Builtin.List.listSameRef, Ne.symm hxD]
  rw [if_neg (by rw [h1]; simp)]
  have E₁₂ := E₁.trans E₂
  refine wpAny_bind (wpAny_mono (aw_iter_own (T := T) (A := A.in1.in1) (Q := fun y m' H' => y = .ref x ∧ (∃ sl', (x, AO.inst cl (some dx) sl') ∈ H') ∧ (∃ fs', (dx, AO.ns fs') ∈ H') ∧ (D, AO.list []) ∈ H' ∧ J D n m' (H'.put D (.list []))) hi hn (List.mem_cons_of_mem _ hx) (List.mem_cons_of_mem _ hd)
    (fun g vs hg hvs => aw_mono (h0 D hD g vs hg hvs) (fun v m' H' q => ⟨q.1, q.2.1, q.2.2.1, rfl, q.2.1, q.2.2⟩) fun _ _ _ q => q) _ (S₂.inA rfl)) (fun it s₃ h₃ => ?_) fun v s₃ h₃ => ?_)
  rotate_left
  · obtain ⟨m₃, H₃, S₃, E₃, q⟩ := h₃
    exact ⟨m₃, H₃, S₃.inA rfl, E₁₂.trans (E₃.inA rfl), q⟩
  obtain ⟨m₃, H₃, S₃, E₃, hit, ⟨sl', hx'⟩, ⟨fs', hd'⟩, hD', hJ⟩ := h₃
  obtain rfl := er_eq_ref hit
  refine wpAny_bind (wpAny_holding ?_)
  unfold Builtin.List.listLengthHint
  have KX₃ := T.X.keeps S₃.base
  obtain ⟨ox₃, od₃, I₃, _⟩ := S₃.inst hx' hd'
  refine wpAny_bind (wpAny_bind (I₃.type.here ((looks_findIn KX₃ l1).here ?_)))
  refine wpAny_bind (wpAny_bind (I₃.type.here ((looks_findIn KX₃ l2).here ?_)))
  refine wpAny_pure ?_
  show wpAny _ A.in1.in1 (rule "list.extend.makes-room" >>= fun _ => Builtin.List.listTouch (.ref D) >>= fun _ =>
    again (.builtin "list.extend.loop" ⟨[.ref D, .ref x, .none], []⟩)) _ _ _
  refine wpAny_bind (wpAny_rule ?_)
  refine wpAny_bind ?_
  show wpAny _ _ (updateSeq D (·.push .none) >>= fun _ => updateSeq D (·.pop)) _ _ _
  obtain ⟨vs₃, c₃, r1, r2⟩ := S₃.isL hD'
  have hvs₃ : vs₃ = #[] := by
    obtain ⟨ls, rfl⟩ : ∃ ls, vs₃ = List.toArray ls := ⟨vs₃.toList, rfl⟩
    have := List.map_eq_nil_iff.mp r2
    simp only at this
    rw [this]
  subst hvs₃
  refine wpAny_bind (wpAny_updateSeq r1 rfl ?_ (by rw [sizeLine_eq]; simp) (by rw [sizeLine_eq]; simp))
  have hS₂ := Heap.get?_update_self (Obj.mapSeq (·.push Value.none)) r1 rfl
  refine wpAny_updateSeq hS₂ rfl ?_ (by rw [sizeLine_eq]; simp) (by rw [sizeLine_eq]; simp)
  obtain ⟨S₄, E₄⟩ := S₃.write (s' := { s₃ with heap := (s₃.heap.update D (Obj.mapSeq (·.push Value.none))).update D (Obj.mapSeq (·.pop)) }) hD' (Heap.SameBut.trans (Heap.SameBut.update ..) (Heap.SameBut.update ..)) (Heap.get?_update_self (Obj.mapSeq (·.pop)) hS₂ rfl) (ao' := .list []) ⟨rfl, ⟨rfl, rfl⟩, _, _, rfl, rfl⟩
  refine wpAny_pure ⟨plainId_quiet F.plain_extend_loop _, ?_⟩
  have S₄' : St C A.in1 fx m₃ _ _ := S₄.inA rfl
  have E₄' : Ext A.in1 fx H s _ _ := (E₁₂.trans ((E₃.trans E₄).inA rfl)).inA rfl
  refine codeAny_mono (ext_loop (A := A.in1) (D := D) (x := x) (Fi := Q (.ref D)) (J D) (turn D hD) n m₃ _ _ hJ S₄' E₄') fun r s' hr => ?_
  cases r with
  | error e =>
    obtain ⟨m', H', S', E', q⟩ := hr
    exact ⟨m', H', S'.inA rfl, E'.inA rfl, q⟩
  | ok fl =>
    cases fl with
    | ret v =>
      obtain ⟨rfl, m', H', S', E', q⟩ := hr
      exact ⟨rfl, m', H', S'.inA rfl, E'.inA rfl, q⟩
    | next => exact hr
    | brk => exact hr
    | cont => exact hr
end
end Mine

namespace Mine
open PySem PySem.W PyProof.Rows
open Sem (wp)

section
variable {α : Type} {C : Cfg} {A A' : Around} {fx fx' : Fx} {m m' m₁ : Lo} {H H' H₁ R : AH} {X : Value → Lo → AH → Prop} {K : Frag} {s s' s₁ : Shared} {e : Addr}

/-! ### a loop that an exception leaves -/
noncomputable def passX (L : Addr) (X : Value → Lo → AH → Prop) : Value → Lo → AH → Prop := fun v m H => ∃ e cls R, v = .ref e ∧ Exn L e cls R H ∧ ∀ H', ExnT e cls (rawInt L) R H' → X (.ref e) m H'
theorem passX_back (hh : Here A fx) {v : Value} (S₁ : St C A fx m₁ H₁ s₁) (S : St C A fx m H s) (E : Ext A fx H₁ s₁ H s) (h : passX fx.env.locals X v m H) :
    notedBy (model C.prog C.w) A fx.env (cameBackBy (model C.prog C.w) A fx.env (fun e s' => ∃ m' H', St C A fx m' H' s' ∧ Ext A fx H₁ s₁ H' s' ∧ X e m' H')) v s := by
  obtain ⟨e, cls, R, rfl, hx, hX⟩ := h
  unfold notedBy
  refine wpAny_mono (aw_note (X := fun _ _ _ => False) (Q := fun _ m' H' => m' = m ∧ ExnT e cls (rawInt fx.env.locals) R H') hh hx (fun H' h' => ⟨rfl, h'⟩) s S) (fun _ s₂ h₂ => ?_) fun v s₂ h₂ => ?_
  · obtain ⟨m₂, H₂, S₂, E₂, rfl, q⟩ := h₂
    unfold cameBackBy
    refine wpAny_mono (aw_back (X := fun _ _ _ => False) (Q := fun _ m' H' => m' = m₂ ∧ ExnT e cls (rawInt fx.env.locals) R H') hh q (fun H' h' => ⟨rfl, h'⟩) s₂ S₂) (fun _ s₃ h₃ => ?_) fun v s₃ h₃ => ?_
    · obtain ⟨m₃, H₃, S₃, E₃, rfl, q⟩ := h₃
      exact ⟨m₃, H₃, S₃, E.trans (E₂.trans E₃), hX H₃ q⟩
    · obtain ⟨_, _, _, _, z⟩ := h₃; exact z.elim
  · obtain ⟨_, _, _, _, z⟩ := h₂; exact z.elim

theorem ex_whileX {Q : Flow → Lo → AH → Prop} {t : PySem.Expr} {body orelse : List Stmt} {pos : Pos} (hh : Here A fx) (I : Nat → Lo → AH → Prop) (n : Nat) (h0 : I n m H)
    (turn : ∀ n m H, I n m H → IT C A fx t m H (fun b m₁ H₁ => if b = true then EXS C A fx body m₁ H₁ (loopPost Q (fun m₂ H₂ => ∃ k, k < n ∧ I k m₂ H₂)) (passX fx.env.locals X) else EXS C A fx orelse m₁ H₁ Q (passX fx.env.locals X)) (passX fx.env.locals X)) : EX C A fx (.While t body orelse pos) m H Q X := by
  show AW C A fx (exec _ _) m H _ X
  rw [arm_exec_While]
  refine aw_bind (aw_standAt ?_)
  intro s₁ S₁
  refine wpAny_runOwn (codeAny_whileLoop (fun n s => ∃ m' H', St C A fx m' H' s ∧ Ext A fx H s₁ H' s ∧ I n m' H') ?_ n ⟨m, H, S₁, Ext.refl' S₁, h0⟩)
  rintro n s ⟨m', H', S, E, hI⟩
  refine wpAny_mono (turn n m' H' hI s S) (fun b s₂ h₂ => ?_) fun _ _ h₂ => ?_
  · obtain ⟨m₂, H₂, S₂, E₂, q₂⟩ := h₂
    cases b with
    | true =>
      rw [if_pos rfl] at q₂ ⊢
      refine wpAny_mono (q₂ s₂ S₂) (fun f s₃ h₃ => ?_) fun _ _ h₃ => ?_
      · obtain ⟨m₃, H₃, S₃, E₃, q₃⟩ := h₃
        have EE := E.trans (E₂.trans E₃)
        cases f with
        | next => obtain ⟨k, hk, q⟩ := q₃; exact ⟨k, hk, m₃, H₃, S₃, EE, q⟩
        | cont => obtain ⟨k, hk, q⟩ := q₃; exact ⟨k, hk, m₃, H₃, S₃, EE, q⟩
        | brk => exact ⟨m₃, H₃, S₃, EE, q₃⟩
        | ret v => exact ⟨m₃, H₃, S₃, EE, q₃⟩
      · obtain ⟨m₃, H₃, S₃, E₃, q₃⟩ := h₃
        exact passX_back hh S₁ S₃ (E.trans (E₂.trans E₃)) q₃
    | false =>
      rw [if_neg (by decide)] at q₂ ⊢
      refine wpAny_mono (q₂ s₂ S₂) (fun f s₃ h₃ => ?_) fun _ _ h₃ => ?_
      · obtain ⟨m₃, H₃, S₃, E₃, q₃⟩ := h₃
        exact ⟨m₃, H₃, S₃, E.trans (E₂.trans E₃), q₃⟩
      · obtain ⟨m₃, H₃, S₃, E₃, q₃⟩ := h₃
        exact passX_back hh S₁ S₃ (E.trans (E₂.trans E₃)) q₃
  · obtain ⟨m₂, H₂, S₂, E₂, q₂⟩ := h₂
    exact passX_back hh S₁ S₂ (E.trans E₂) q₂

/-! ### calls that may raise -/
noncomputable def leaveX (L : Addr) (X : Value → Lo → AH → Prop) (m₁ : Lo) : Value → Lo → AH → Prop := fun v _ H => ∃ e cls R, v = .ref e ∧ Exn L e cls R H ∧ ∀ H', ExnT e cls .none R H' → X (.ref e) m₁ H'
section
variable {f : Addr} {name qual : PySem.Str} {params : Arguments} {body : List Stmt} {scope : Scope} {dV kV doc pm cdv ct : Value} {an : Option Addr} {n : Nat} {Q : Value → Lo → AH → Prop}
theorem callX {fd : FuncData} {xs : List Value} (R : Room A (n + 1)) (F : FnAt C f fd body)
    (hb : ∀ vs, vs.map er = xs → AW C A.in1 fx (bindArgs fd ⟨vs, []⟩) m H (fun binds m₁ H₁ => BindOk fd binds ∧ ∀ A' fx', Room A' n → Here A' fx' → Sc fx' fd.scope fd.scope.names → EXS C A' fx' body (erB binds) H₁ (fun fl _ H₂ => Q (retV fl) m₁ H₂) (leaveX fx'.env.locals X m₁)) X) :
    CALLC C A fx (.ref f) xs m H Q X :=
  call_fn F R.lim fun vs hvs => aw_mono (hb vs hvs) (fun binds m₁ H₁ ⟨h1, h2⟩ => ⟨h1, fun fx' => leaveX fx'.env.locals X m₁, fun fx' I => h2 _ fx' R.deeper (Here.of I) I.sc, fun fx' I e m₂ H₂ hx => by
    obtain ⟨e, cls, R, rfl, hx, hX⟩ := hx
    exact aw_leaving (Here.of I) hx hX⟩) fun _ _ _ q => q
theorem aw_newTup {vs : List Value} {Q : Value → Lo → AH → Prop} (hz : vs.length ≤ 1000000) (h : ∀ t, t ∉ H.keys → Q (.ref t) m ((t, .tup (vs.map er)) :: H)) : AW C A fx (newTuple vs) m H Q X := by
  intro s S
  refine wpAny_newObj_type ?_ (by show vs.toArray.size ≤ sizeLine; rw [List.size_toArray, sizeLine_eq]; omega)
  obtain ⟨S', E'⟩ := S.push (o := { cls := .type "tuple", data := .seq vs.toArray }) (ao := .tup (vs.map er)) ⟨rfl, ⟨rfl, rfl⟩, _, _, rfl, rfl⟩
  exact ⟨m, _, S', E', h _ (none_new S (none_of_le (Nat.le_refl _)))⟩

theorem call1x (R : Room A (n + 1)) (F : FnAt C f (fnOf name qual params body scope dV kV doc pm an cdv ct) body) {x : Value} (n1 : PySem.Str)
    (hb : ∀ a, bindArgs (fnOf name qual params body scope dV kV doc pm an cdv ct) ⟨[a], []⟩ = pure [(n1, a)]) (hB : namesB scope [n1] = true)
    (h : ∀ A' fx', Room A' n → Here A' fx' → Sc fx' scope scope.names → EXS C A' fx' body [(n1, x)] H (fun fl _ H₂ => Q (retV fl) m H₂) (leaveX fx'.env.locals X m)) : CALLC C A fx (.ref f) [x] m H Q X :=
  callX R F fun vs hvs => by
    obtain ⟨a, rfl, ha⟩ := er1 hvs
    subst ha
    exact aw_binds (hb a) ⟨bindOk_of hB, h⟩
theorem callV1 (R : Room A (n + 1)) (F : FnAt C f (fnOf name qual params body scope dV kV doc pm an cdv ct) body) {x : Value} {rest : List Value} (n1 n2 : PySem.Str)
    (hb : ∀ a r, bindArgs (fnOf name qual params body scope dV kV doc pm an cdv ct) ⟨a :: r, []⟩ = (newTuple r >>= fun t => pure [(n1, a), (n2, t)])) (hB : namesB scope [n1, n2] = true) (hz : rest.length ≤ 1000000)
    (h : ∀ A' fx' t, t ∉ H.keys → Room A' n → Here A' fx' → Sc fx' scope scope.names → EXS C A' fx' body [(n1, x), (n2, .ref t)] ((t, .tup rest) :: H) (fun fl _ H₂ => Q (retV fl) m H₂) (leaveX fx'.env.locals X m)) : CALLC C A fx (.ref f) (x :: rest) m H Q X :=
  callX R F fun vs hvs => by
    rcases vs with _ | ⟨a, r⟩
    · cases hvs
    · obtain ⟨rfl, rfl⟩ := List.cons.inj hvs
      rw [hb]
      exact aw_bind (aw_newTup (by simpa using hz) fun t ht => aw_pure ⟨bindOk_of hB, fun A' fx' r1 r2 r3 => h A' fx' t ht r1 r2 r3⟩)
theorem callV2 (R : Room A (n + 1)) (F : FnAt C f (fnOf name qual params body scope dV kV doc pm an cdv ct) body) {x y : Value} {rest : List Value} (n1 n2 n3 : PySem.Str)
    (hb : ∀ a b r, bindArgs (fnOf name qual params body scope dV kV doc pm an cdv ct) ⟨a :: b :: r, []⟩ = (newTuple r >>= fun t => pure [(n1, a), (n2, b), (n3, t)])) (hB : namesB scope [n1, n2, n3] = true) (hz : rest.length ≤ 1000000)
    (h : ∀ A' fx' t, t ∉ H.keys → Room A' n → Here A' fx' → Sc fx' scope scope.names → EXS C A' fx' body [(n1, x), (n2, y), (n3, .ref t)] ((t, .tup rest) :: H) (fun fl _ H₂ => Q (retV fl) m H₂) (leaveX fx'.env.locals X m)) : CALLC C A fx (.ref f) (x :: y :: rest) m H Q X :=
  callX R F fun vs hvs => by
    rcases vs with _ | ⟨a, _ | ⟨b, r⟩⟩
    · cases hvs
    · cases hvs
    · simp only [List.map_cons, List.cons.injEq] at hvs
      obtain ⟨rfl, rfl, rfl⟩ := hvs
      rw [hb]
      exact aw_bind (aw_newTup (by simpa using hz) fun t ht => aw_pure ⟨bindOk_of hB, fun A' fx' r1 r2 r3 => h A' fx' t ht r1 r2 r3⟩)
theorem callD {fd : FuncData} {xs : List Value} {T : Addr} {o : Obj} {items : Array Value} {c : Nat} (R : Room A (n + 1)) (F : FnAt C f fd body) (hd : fd.defaults = .ref T) (TT : Top C K) (ho : K.lookup T = some o) (hs : o.data = .seq items c) (binds : List Value → List (PySem.Str × Value))
    (hb : ∀ vs, vs.map er = xs → ∃ k, bindArgs fd ⟨vs, []⟩ = (seqItems? fd.defaults >>= k) ∧ k (some items) = pure (binds vs)) {bs : List (PySem.Str × Value)} (hB : ∀ vs, vs.map er = xs → BindOk fd (binds vs) ∧ erB (binds vs) = bs)
    (h : ∀ A' fx', Room A' n → Here A' fx' → Sc fx' fd.scope fd.scope.names → EXS C A' fx' body bs H (fun fl _ H₂ => Q (retV fl) m H₂) (leaveX fx'.env.locals X m)) : CALLC C A fx (.ref f) xs m H Q X :=
  callX R F fun vs hvs => by
    obtain ⟨k, h1, h2⟩ := hb vs hvs
    obtain ⟨b1, b2⟩ := hB vs hvs
    intro s S
    exact (BindsTo.of_defaults hd (S.base _ _ (TT.X T o ho)) hs h1 h2) _ _ _ _ ⟨m, H, S, Ext.refl' S, b1, by rw [b2]; exact h⟩
end
end
end Mine

namespace Mine
open PySem PySem.W PyProof.Rows
open Sem (wp)

theorem Room.eq2 {A : Around} {n : Nat} (r : Room A n) : A.units + 100 < cLine := plus_lt (N := 9900) r.units rfl
theorem Room.in2 {A : Around} {n : Nat} (r : Room A (n + 1)) : Room A.in1.in1 n := ⟨up_N (k := 0) r.depth rfl, up_N (k := 2) r.units rfl, r.hand⟩

/-! ### less is known -/
noncomputable def Wk (H H' : AH) : Prop := (∀ p ∈ H', p ∈ H) ∧ (H.keys.Nodup → H'.keys.Nodup)
noncomputable def WkL (m m' : Lo) : Prop := ∀ x v, (x, v) ∈ m' → (x, v) ∈ m
theorem Wk.refl {H : AH} : Wk H H := ⟨fun _ h => h, id⟩
theorem WkL.refl {m : Lo} : WkL m m := fun _ _ h => h
theorem Wk.trans {H H' H'' : AH} (a : Wk H H') (b : Wk H' H'') : Wk H H'' := ⟨fun p h => a.1 p (b.1 p h), fun h => b.2 (a.2 h)⟩
theorem Wk.sub {H H' : AH} (h : H'.Sublist H) : Wk H H' := ⟨fun p hp => h.subset hp, fun hn => hn.sublist (h.map _)⟩
theorem Wk.perm {H H' : AH} (h : H.Perm H') : Wk H H' := ⟨fun p hp => h.mem_iff.mpr hp, (h.map _).nodup_iff.mp⟩
theorem Wk.cons {H H' : AH} {p : Addr × AO} (a : Wk H H') : Wk (p :: H) H' := ⟨fun q h => List.mem_cons_of_mem _ (a.1 q h), fun h => a.2 (List.nodup_cons.mp h).2⟩
theorem Wk.keep {H H' : AH} {p : Addr × AO} (a : Wk H H') : Wk (p :: H) (p :: H') := by
  refine ⟨fun q h => ?_, fun h => ?_⟩
  · rcases List.mem_cons.mp h with rfl | h
    · exact List.mem_cons_self
    · exact List.mem_cons_of_mem _ (a.1 q h)
  · have := List.nodup_cons.mp h
    refine List.nodup_cons.mpr ⟨fun hm => this.1 ?_, a.2 this.2⟩
    obtain ⟨q, hq, e⟩ := List.mem_map.mp hm
    rw [← e]
    exact mem_keys (a.1 q hq)
theorem Wk.swap {H : AH} {p q : Addr × AO} : Wk (p :: q :: H) (q :: p :: H) := Wk.perm (List.Perm.swap ..)
theorem WkL.cons {m m' : Lo} {p : PySem.Str × Value} (a : WkL m m') : WkL (p :: m) m' := fun x v h => List.mem_cons_of_mem _ (a x v h)

section
variable {α : Type} {C : Cfg} {A A' : Around} {fx fx' : Fx} {m m' m₁ : Lo} {H H' H₁ R : AH} {X : Value → Lo → AH → Prop} {K : Frag} {s s' s₁ : Shared} {e : Addr}
theorem St.wk (S : St C A fx m H s) (h : Wk H H') : St C A fx m H' s ∧ Ext A fx H s H' s := S.sub h.1 (h.2 S.nodup)
theorem aw_wk {t : Sem α} {Q : α → Lo → AH → Prop} (hm : WkL m m') (hH : Wk H H') (h : AW C A fx t m' H' Q X) : AW C A fx t m H Q X := by
  intro s S
  obtain ⟨S', E⟩ := (S.lo hm).wk hH
  refine wpAny_mono (h s S') (fun a s' h' => ?_) (fun e s' h' => ?_) <;> (obtain ⟨m₁, H₁, S₁, E₁, q⟩ := h'; exact ⟨m₁, H₁, S₁, E.trans E₁, q⟩)
theorem aw_wkp {t : Sem α} {Q : α → Lo → AH → Prop} (h : AW C A fx t m H (fun a m' H' => ∃ m'' H'', WkL m' m'' ∧ Wk H' H'' ∧ Q a m'' H'') (fun a m' H' => ∃ m'' H'', WkL m' m'' ∧ Wk H' H'' ∧ X a m'' H'')) : AW C A fx t m H Q X := by
  intro s S
  refine wpAny_mono (h s S) (fun a s' h' => ?_) (fun e s' h' => ?_) <;>
    (obtain ⟨m₁, H₁, S₁, E₁, m₂, H₂, hm, hH, q⟩ := h'; obtain ⟨S₂, E₂⟩ := (S₁.lo hm).wk hH; exact ⟨m₂, H₂, S₂, E₁.trans E₂, q⟩)
theorem callc_wkp {f : Value} {xs : List Value} {Q : Value → Lo → AH → Prop} (h : CALLC C A fx f xs m H (fun a m' H' => ∃ H'', Wk H' H'' ∧ Q a m' H'') (fun a m' H' => ∃ H'', Wk H' H'' ∧ X a m' H'')) : CALLC C A fx f xs m H Q X := fun g vs hg hvs s S =>
  codeAny_mono (h g vs hg hvs s S) fun r s' hr => by
    rcases r with e | (v | _ | _ | _)
    · obtain ⟨m₁, H₁, S₁, E₁, H₂, hH, q⟩ := hr; obtain ⟨S₂, E₂⟩ := S₁.wk hH; exact ⟨m₁, H₂, S₂, E₁.trans E₂, q⟩
    all_goals first | exact hr | (obtain ⟨m₁, H₁, S₁, E₁, H₂, hH, q⟩ := hr; obtain ⟨S₂, E₂⟩ := S₁.wk hH; exact ⟨m₁, H₂, S₂, E₁.trans E₂, q⟩)
theorem callc_wk {f : Value} {xs : List Value} {Q : Value → Lo → AH → Prop} (hH : Wk H H') (h : CALLC C A fx f xs m H' Q X) : CALLC C A fx f xs m H Q X := fun g vs hg hvs s S => by
  obtain ⟨S', E⟩ := S.wk hH
  exact codeAny_mono (h g vs hg hvs s S') fun r s' hr => by
    rcases r with e | (v | _ | _ | _)
    · obtain ⟨m₁, H₁, S₁, E₁, q⟩ := hr; exact ⟨m₁, H₁, S₁, E.trans E₁, q⟩
    all_goals first | exact hr | (obtain ⟨m₁, H₁, S₁, E₁, q⟩ := hr; exact ⟨m₁, H₁, S₁, E.trans E₁, q⟩)
theorem EQV.wk {x y : Value} {b : Bool} (h : EQV C H x y b) (hs : Wk H' H) : EQV C H' x y b := fun A fx m s S => h A fx m s (S.wk hs).1
theorem callc_nodup {f : Value} {xs : List Value} {Q : Value → Lo → AH → Prop} (h : H.keys.Nodup → CALLC C A fx f xs m H Q X) : CALLC C A fx f xs m H Q X := fun g vs hg hvs s S => h S.nodup g vs hg hvs s S

theorem ev_gl2 {sc : Scope} {os : List (PySem.Str × NameKind)} {x : PySem.Str} {pos : Pos} {v v' : Value} {Q : Value → Lo → AH → Prop} (T : Top C K) (Z : Sc fx sc os) (e : nsIn K mainGlobals x = some (some v)) (hk : sc.names.lookup x = some .globalImplicit) (he : er v = v') (h : Q v' m H)
    (hd : (x == ("__debug__" : PySem.Str)) = false := by decide) : EV C A fx (.Name x pos) m H Q X := ev_gl T Z e hk (he ▸ h) hd
theorem ev_bi2 {sc : Scope} {os : List (PySem.Str × NameKind)} {x : PySem.Str} {pos : Pos} {v v' : Value} {Q : Value → Lo → AH → Prop} (T : Top C K) (Z : Sc fx sc os) (e : nsIn K mainGlobals x = some none) (hk : sc.names.lookup x = some .globalImplicit) (hv : bootBuiltins x = some v) (hn : x ≠ "__name__") (he : er v = v') (h : Q v' m H)
    (hd : (x == ("__debug__" : PySem.Str)) = false := by decide) : EV C A fx (.Name x pos) m H Q X := ev_bi T Z e hk hv hn (he ▸ h) hd
theorem cw0 {f : Value} {es : List PySem.Expr} {pos : Pos} {Q : Value → Lo → AH → Prop} (h : EVA C A fx es pos m H (fun xs m₁ H₁ => KP C A fx f m₁ H₁ ∧ CALL C A fx f xs m₁ H₁ Q X) X) : CW C A fx f [] es pos m H Q X := cw h
theorem cw1 {f a : Value} {es : List PySem.Expr} {pos : Pos} {Q : Value → Lo → AH → Prop} (h : EVA C A fx es pos m H (fun xs m₁ H₁ => KP C A fx f m₁ H₁ ∧ CALL C A fx f (a :: xs) m₁ H₁ Q X) X) : CW C A fx f [a] es pos m H Q X := cw h
theorem Wk.put {H H' : AH} {a : Addr} {o : AO} (h : Wk H H') : Wk (H.put a o) (H'.put a o) := by
  refine ⟨fun p hp => ?_, fun hn => ?_⟩
  · obtain ⟨q, hq, rfl⟩ := List.mem_map.mp hp
    exact List.mem_map.mpr ⟨q, h.1 q hq, rfl⟩
  · rw [AH.keys_put] at hn ⊢
    exact h.2 hn
theorem put_cons {H : AH} {a b : Addr} {o o' : AO} : AH.put ((b, o) :: H) a o' = (if b = a then (a, o') else (b, o)) :: AH.put H a o' := by
  unfold AH.put
  rw [List.map_cons]
theorem keys_cons {H : AH} {b : Addr} {o : AO} : AH.keys ((b, o) :: H) = b :: H.keys := rfl
theorem co_is_ref_none {r : Addr} {Q : Value → Lo → AH → Prop} (h : Q (.bool false) m H) : CO C A fx .Is (.ref r) .none m H Q X := co_is_none (fun _ q => nomatch q) (by simpa using h)
theorem co_is_none_none {Q : Value → Lo → AH → Prop} (h : Q (.bool true) m H) : CO C A fx .Is .none .none m H Q X := co_is_none (fun _ q => nomatch q) (by simpa using h)
theorem co_isnot_none_none {Q : Value → Lo → AH → Prop} (h : Q (.bool false) m H) : CO C A fx .IsNot .none .none m H Q X := co_isnot_none (fun _ q => nomatch q) (by simpa using h)
theorem put_head {a : Addr} {o o' : AO} (h : a ∉ H.keys) : AH.put ((a, o) :: H) a o' = (a, o') :: H := by
  unfold AH.put
  rw [List.map_cons, if_pos rfl]
  congr 1
  rw [List.map_congr_left (g := id), List.map_id]
  intro p hp
  exact if_neg fun q => h (by rw [← q]; exact mem_keys hp)
theorem put_none {a : Addr} {o' : AO} (h : a ∉ H.keys) : AH.put H a o' = H := by
  unfold AH.put
  rw [List.map_congr_left (g := id), List.map_id]
  intro p hp
  exact if_neg fun q => h (by rw [← q]; exact mem_keys hp)
end
end Mine

namespace Mine
open PySem PySem.W PyProof.Rows
open Sem (wp)

section
variable {α : Type} {C : Cfg} {A A' : Around} {fx fx' : Fx} {m m' m₁ : Lo} {H H' H₁ R : AH} {X : Value → Lo → AH → Prop} {K : Frag} {s s' s₁ : Shared} {Q : Value → Lo → AH → Prop}
variable {d : Addr} {ks : List Int} {k : Int}

/-! ### sets of ints -/
theorem St.setOf (S : St C A fx m H s) (hd : (d, AO.set ks) ∈ H) : ∃ n, n ≤ ks.length ∧ s.heap.SetOf (intKind C.prog C.w) d (fun k => decide (k ∈ ks)) n := by
  obtain ⟨o, ho, hx, es, ep, t, h1, h2, h3, h4, h5, h6⟩ := S.get hd
  exact ⟨es.size, h6, o, es, ep, t, ho, hx, h1, h2, h3, h4, h5, rfl⟩
theorem or_set {h : Heap} {n : Nat} (hS : h.SetOf (intKind C.prog C.w) d (fun k => decide (k ∈ ks)) n) (hn : n ≤ ks.length) : ∃ o, h.get? d = some o ∧ OR C o (.set ks) := by
  obtain ⟨o, es, ep, t, ho, hx, h1, h2, h3, h4, h5, h6⟩ := hS
  exact ⟨o, ho, hx, es, ep, t, h1, h2, h3, h4, h5, by omega⟩
theorem call_set0 (h : ∀ a, a ∉ H.keys → Q (.ref a) m ((a, .set []) :: H)) : CALL C A fx (.type "set") [] m H Q X := fun g vs hg hvs => by
  obtain rfl := er_eq_type hg
  obtain rfl := er0 hvs
  intro s S
  refine call_set_0 fun led => ?_
  obtain ⟨S', E'⟩ := S.push (o := { cls := .type "set", dict := none, data := .set #[] 0 (.fresh 0 0 led) }) (ao := .set []) ⟨⟨rfl, rfl, rfl⟩, #[], 0, _, rfl, (fun e he => by simp at he), (fun k => by simp), (by decide), by rfl, Nat.le_refl _⟩
  exact ⟨m, _, S', E', h _ (none_new S (none_of_le (Nat.le_refl _)))⟩
theorem call_setadd (hd : (d, AO.set ks) ∈ H) (hz : ks.length < 4000) (h : Q .none m (H.put d (.set (k :: ks)))) : CALL C A fx (.builtin "set.add") [.ref d, vI k] m H Q X := fun g vs hg hvs => by
  obtain rfl := er_eq_builtin hg
  obtain ⟨a, b, rfl, ha, hb⟩ := er2 hvs
  obtain rfl := er_eq_ref ha
  obtain ⟨t, rfl⟩ := er_eq_int hb
  intro s S
  obtain ⟨n, hn, hS⟩ := S.setOf hd
  refine call_set_add (k := k) intKey rfl hS (by show n + 1 < 4096; omega) fun h' hs hS' => ?_
  have hS'' : h'.SetOf (intKind C.prog C.w) d (fun j => decide (j ∈ k :: ks)) (if decide (k ∈ ks) then n else n + 1) := by
    have e : (fun k' => decide (k' ∈ ks) || decide (k' = k)) = fun j => decide (j ∈ k :: ks) := by
      funext j
      rw [Bool.eq_iff_iff]
      simp [or_comm]
    rw [← e]; exact hS'
  obtain ⟨o', ho', hr'⟩ := or_set hS'' (by rw [List.length_cons]; split <;> omega)
  obtain ⟨S', E'⟩ := S.write (s' := { s with heap := h', toks := s.toks + 1 }) hd hs ho' hr'
  exact ⟨m, _, S', E', h⟩
theorem co_in_set (hd : (d, AO.set ks) ∈ H) (h : Q (.bool (decide (k ∈ ks))) m H) : CO C A fx .In (vI k) (.ref d) m H Q X := fun a b ha hb => by
  obtain ⟨t, rfl⟩ := er_eq_int ha
  obtain rfl := er_eq_ref hb
  intro s S
  obtain ⟨n, hn, hS⟩ := S.setOf hd
  exact wpAny_inSet_of (knd := intKind C.prog C.w) intKey rfl hS ⟨m, H, (S.toks _).1, (S.toks _).2, h⟩

/-! ### del d[k] -/
noncomputable def DI (C : Cfg) (A : Around) (fx : Fx) (x i : Value) (m : Lo) (H : AH) (Q : Lo → AH → Prop) (X : Value → Lo → AH → Prop) : Prop := ∀ a b, er a = x → er b = i → AW C A fx (delItem a b) m H (fun _ => Q) X
theorem di_dict {kvs : List (Int × Value)} {ep : Nat} {Q : Lo → AH → Prop} (hd : (d, AO.dict kvs ep) ∈ H) (hk : (dval kvs k).isSome = true) (hz : kvs.length ≤ 1000000) (h : ∀ ep', Q m (H.put d (.dict (kvs.filter fun p => decide (p.1 ≠ k)) ep'))) : DI C A fx (.ref d) (vI k) m H Q X := fun a b ha hb => by
  obtain rfl := er_eq_ref ha
  obtain ⟨t, rfl⟩ := er_eq_int hb
  intro s S
  obtain ⟨raw, h1, h2⟩ := S.dictAt hd
  have hD := h1.dictOf
  unfold delItem
  try with_reducible refine wpAny_holding ?_
  refine wpAny_bind (wpAny_sequenceKey hD.typeIs (by decide) ?_)
  refine wpAny_bind (wpAny_callSpecial?_slot (name := Str.ofString "__delitem__") hD.typeIs PySem.F.slot_dict_delitem
    (call_meetsIn PySem.F.slot_dict_delitem hD.typeIs PySem.F.entry_dict_delitem (PySem.F.args_dict_delitem_2 _ _) (meets_dict_delitem_pairs (intKind C.prog C.w) d (k := k) intKey) ⟨raw, hD, by rw [raw_len h2, sizeLine_eq]; omega, by rw [← valueAt_er h2 k, Option.isSome_map] at hk; exact hk, fun h' hd' hs => ?_⟩))
  obtain ⟨o', ep', ho', hr'⟩ := or_dict hd' (kvs := kvs.filter fun p => decide (p.1 ≠ k)) (by
    subst h2
    unfold without
    rw [List.filter_map]
    rfl)
  obtain ⟨S', E'⟩ := S.write (s' := { s with heap := h', toks := s.toks + 1 }) hd hs ho' hr'
  exact wpAny_pure ⟨m, _, S', E', h ep'⟩
end
end Mine

namespace Mine
open PySem PySem.W PyProof.Rows
open Sem (wp)

section
variable {α : Type} {C : Cfg} {A A' : Around} {fx fx' : Fx} {m m' m₁ : Lo} {H H' H₁ R : AH} {X : Value → Lo → AH → Prop} {K : Frag} {s s' s₁ : Shared}
variable {d v : Addr} {kvs : List (Int × Value)} {ep : Nat}

/-! ### views of a dict -/
theorem call_values {Q : Value → Lo → AH → Prop} (hd : (d, AO.dict kvs ep) ∈ H) (h : ∀ v, v ∉ H.keys → Q (.ref v) m ((v, .flds (.type "dict_values") [.ref d]) :: H)) : CALL C A fx (.builtin "dict.values") [.ref d] m H Q X := fun g vs hg hvs => by
  obtain rfl := er_eq_builtin hg
  obtain ⟨a, rfl, ha⟩ := er1 hvs
  obtain rfl := er_eq_ref ha
  intro s S
  obtain ⟨raw, h1, h2⟩ := S.dictAt hd
  obtain ⟨S', E'⟩ := S.push (o := { cls := .type "dict_values", data := .fields #[.ref d] }) (ao := .flds (.type "dict_values") [.ref d]) ⟨rfl, ⟨rfl, rfl⟩, _, rfl, rfl⟩
  exact call_meetsIn PySem.F.slot_dict_values h1.dictOf.typeIs PySem.F.entry_dict_values (PySem.F.args_dict_values_1 _) (meets_dict_values (intKind C.prog C.w) d (S.notMods (mem_keys hd))) ⟨⟨_, h1.dictOf⟩, m, _, S', E', h _ (none_new S (none_of_le (Nat.le_refl _)))⟩
end
end Mine

namespace Mine
open PySem PySem.W PyProof.Rows
open Sem (wp)

section
variable {α : Type} {C : Cfg} {A A' : Around} {fx fx' : Fx} {m m' m₁ : Lo} {H H' H₁ R : AH} {X : Value → Lo → AH → Prop} {K : Frag} {s s' s₁ : Shared}
variable {t : Addr} {x y : Value}

/-! ### a tuple of two, taken apart -/
theorem aw_unpackItems {xs : List Value} {n : Nat} {Q : List Value → Lo → AH → Prop} (hA : A.handled = none) (ht : (t, AO.tup xs) ∈ H) (hn : xs.length = n) (h : ∀ vs, vs.map er = xs → Q vs m H) : AW C A fx (unpackItems (.ref t) n none) m H Q X := by
  intro s S
  obtain ⟨vs, h1, h2⟩ := S.isTup ht
  have hsz := size_of_er h2
  subst hn
  rw [← hsz]
  refine wpAny_unpackItems_tuple hA h1 fun h' hk => ?_
  obtain ⟨S', E'⟩ := S.keeps (s' := { s with heap := h' }) (fun b o e => hk b o (fun q => by have := Heap.lt_size e; rw [q] at this; exact Nat.lt_irrefl _ this) e)
  exact ⟨m, H, S', E', h _ h2⟩
theorem asg_tup2 {a b : PySem.Expr} {x1 : _} {pos : Pos} {Q : Lo → AH → Prop} (hA : A.handled = none) (ht : (t, AO.tup [x, y]) ∈ H) (h : ASG C A fx a x m H (fun m₁ H₁ => ASG C A fx b y m₁ H₁ Q X) X)
    (he : assignEach [a, b] fx.env = [(false, assign a fx.env), (false, assign b fx.env)] := by rfl) : ASG C A fx (.Tuple [a, b] x1 pos) (.ref t) m H Q X := fun v hv => by
  obtain rfl := er_eq_ref hv
  rw [arm_assign_Tuple, he]
  refine aw_bind (aw_standAt ?_)
  unfold unpack
  refine aw_bind (aw_holding (aw_unpackItems (n := 2) hA ht rfl fun vs hvs => ?_))
  obtain ⟨p, q, rfl, hp, hq⟩ := er2 hvs
  show AW C A fx (assignInOrder [assign a fx.env, assign b fx.env] [p, q]) m H _ X
  unfold assignInOrder
  refine aw_bind (aw_holding (aw_mono (h p hp) (fun _ m₁ H₁ h₁ => ?_) fun _ _ _ z => z))
  unfold assignInOrder
  refine aw_bind (aw_holding (aw_mono (h₁ q hq) (fun _ m₂ H₂ h₂ => ?_) fun _ _ _ z => z))
  unfold assignInOrder
  exact aw_pure h₂
theorem ex_swap2 {ts : List PySem.Expr} {e : PySem.Expr} {n1 n2 : PySem.Str} {pos : Pos} {Q : Flow → Lo → AH → Prop} (hA : A.handled = none) (o1 : Own fx n1) (o2 : Own fx n2)
    (h : EV C A fx e m H (fun v m₁ H₁ => ∃ t a b, v = .ref t ∧ (t, AO.tup [a, b]) ∈ H₁ ∧ Q .next ((m₁.put n2 b).put n1 a) H₁) X)
    (hs : swapsWithSole ts e pos.line fx.env = pure false := by rfl) (hw : swappedStores ts e fx.env = pure (some [n1, n2]) := by rfl) : EX C A fx (.Assign ts e pos) m H Q X := by
  show AW C A fx (exec _ _) m H _ X
  rw [arm_exec_Assign, hs]
  refine aw_bind (aw_standAt (aw_bind (aw_pure ?_)))
  rw [if_neg (by decide)]
  refine aw_bind (aw_mono h (fun v m₁ H₁ h₁ => ?_) fun _ _ _ x => x)
  obtain ⟨t, a, b, hv, ht, hq⟩ := h₁
  obtain rfl := er_eq_ref hv
  rw [hw]
  refine aw_bind (aw_pure ?_)
  show AW C A fx (rule "assign.swapped-stores" >>= fun _ => unpackItems (.ref t) 2 none >>= fun items => assignInOrder [bindName fx.env n2, bindName fx.env n1] items.reverse >>= fun _ => pure Flow.next) m₁ H₁ _ X
  refine aw_bind (aw_rule (aw_bind (aw_unpackItems hA ht rfl fun vs hvs => ?_)))
  obtain ⟨p, q, rfl, hp, hq'⟩ := er2 hvs
  show AW C A fx (assignInOrder [bindName fx.env n2, bindName fx.env n1] [q, p] >>= fun _ => pure Flow.next) m₁ H₁ _ X
  unfold assignInOrder
  refine aw_bind (aw_bind (aw_holding (aw_bindName (aw_store o2 ?_))))
  unfold assignInOrder
  refine aw_bind (aw_holding (aw_bindName (aw_store o1 ?_)))
  unfold assignInOrder
  refine aw_pure (aw_pure ?_)
  rw [hp, hq']
  exact hq
end
end Mine

namespace Mine
open PySem PySem.W PyProof.Rows
open Sem (wp)

/-! ### a sorter, as cells -/
structure NI where
  node : Int
  ia : Addr
  id : Addr
  la : Addr
  np : Int
  su : List Int
noncomputable def NI.cells (NC : Addr) (r : NI) : AH := [(r.ia, .inst NC (some r.id) [some (vI r.node), some (vI r.np), some (.ref r.la)]), (r.id, .ns []), (r.la, .list (iv r.su))]
structure SS where
  sa : Addr
  sd : Addr
  nd : Addr
  fs : List (PySem.Str × Value)
  ep : Nat
  recs : List NI
  rdy : Option (Addr × List Int)
  po : Int
  nf : Int
noncomputable def SS.rv (σ : SS) : Value := match σ.rdy with | none => .none | some p => .ref p.1
noncomputable def SS.rc (σ : SS) : AH := match σ.rdy with | none => [] | some p => [(p.1, .list (iv p.2))]
noncomputable def SS.kvs (σ : SS) : List (Int × Value) := σ.recs.map fun r => (r.node, .ref r.ia)
noncomputable def RC (NC : Addr) (recs : List NI) : AH := recs.flatMap (NI.cells NC)
noncomputable def SC (NC TC : Addr) (σ : SS) : AH := (σ.sa, .inst TC (some σ.sd) []) :: (σ.sd, .ns σ.fs) :: (σ.nd, .dict σ.kvs σ.ep) :: (σ.rc ++ RC NC σ.recs)
noncomputable def SS.look (σ : SS) (y : PySem.Str) : Option Value :=
  if y = "_node2info" then some (.ref σ.nd) else if y = "_ready_nodes" then some σ.rv else if y = "_npassedout" then some (vI σ.po) else if y = "_nfinished" then some (vI σ.nf) else none
structure SS.Ok (σ : SS) : Prop where
  fs : ∀ y, σ.fs.lookup y = σ.look y
  len : σ.fs.length ≤ 100
  nodes : (σ.recs.map (·.node)).Nodup
noncomputable def SS.g (σ : SS) : List (Int × Int × List Int) := σ.recs.map fun r => (r.node, r.np, r.su)

theorem put_append {H H' : AH} {a : Addr} {o : AO} : AH.put (H ++ H') a o = AH.put H a o ++ AH.put H' a o := by
  unfold AH.put; rw [List.map_append]
theorem keys_append {H H' : AH} : AH.keys (H ++ H') = H.keys ++ H'.keys := by unfold AH.keys; rw [List.map_append]
theorem mem_rc {NC : Addr} {recs : List NI} {r : NI} {p : Addr × AO} (hr : r ∈ recs) (hp : p ∈ r.cells NC) : p ∈ RC NC recs := List.mem_flatMap.mpr ⟨r, hr, hp⟩
theorem mem_sc {NC TC : Addr} {σ : SS} {p : Addr × AO} (hp : p ∈ RC NC σ.recs) : p ∈ SC NC TC σ := List.mem_cons_of_mem _ (List.mem_cons_of_mem _ (List.mem_cons_of_mem _ (List.mem_append_right _ hp)))
noncomputable def updR' (recs : List NI) (k : Int) (f : NI → NI) : List NI := recs.map fun q => if q.node = k then f q else q
theorem updR'_none {recs : List NI} {k : Int} {f : NI → NI} (h : k ∉ recs.map (·.node)) : updR' recs k f = recs := by
  unfold updR'
  rw [List.map_congr_left (g := id), List.map_id]
  intro q hq
  exact if_neg fun e => h (by rw [← e]; exact List.mem_map_of_mem hq)
theorem put_rc {NC : Addr} {a : Addr} {o' : AO} {f : NI → NI} {r : NI} (ha : a ∈ AH.keys (r.cells NC)) (hf : AH.put (r.cells NC) a o' = (f r).cells NC) : ∀ {recs : List NI}, r ∈ recs → (AH.keys (RC NC recs)).Nodup → (recs.map (·.node)).Nodup → AH.put (RC NC recs) a o' = RC NC (updR' recs r.node f)
  | [], hr, _, _ => by cases hr
  | q :: rest, hr, hn, hd => by
    have e : RC NC (q :: rest) = q.cells NC ++ RC NC rest := by unfold RC; rw [List.flatMap_cons]
    have e2 : RC NC (updR' (q :: rest) r.node f) = (if q.node = r.node then f q else q).cells NC ++ RC NC (updR' rest r.node f) := by unfold RC updR'; rw [List.map_cons, List.flatMap_cons]
    rw [e] at hn
    rw [keys_append] at hn
    have hna := List.nodup_append.mp hn
    rw [List.map_cons, List.nodup_cons] at hd
    rw [e, e2, put_append]
    rcases List.mem_cons.mp hr with rfl | hr
    · rw [if_pos rfl, hf, updR'_none hd.1, put_none fun hm => hna.2.2 a ha a hm rfl]
    · have hk : a ∈ AH.keys (RC NC rest) := by
        obtain ⟨p, hp, rfl⟩ := List.mem_map.mp ha
        exact mem_keys (mem_rc hr hp)
      rw [if_neg fun e => hd.1 (by rw [e]; exact List.mem_map_of_mem hr), put_none fun hm => hna.2.2 a hm a hk rfl, put_rc ha hf hr hna.2.1 hd.2]

theorem sc_keys {NC TC : Addr} {σ : SS} {R : AH} : AH.keys (SC NC TC σ ++ R) = σ.sa :: σ.sd :: σ.nd :: (σ.rc.keys ++ (RC NC σ.recs).keys ++ R.keys) := by
  unfold SC
  rw [keys_append, keys_cons, keys_cons, keys_cons, keys_append]
  rfl
theorem put_rec {NC TC : Addr} {σ : SS} {R : AH} {a : Addr} {o' : AO} {f : NI → NI} {r : NI} (hn : (AH.keys (SC NC TC σ ++ R)).Nodup) (ok : σ.Ok) (hr : r ∈ σ.recs) (ha : a ∈ AH.keys (r.cells NC)) (hf : AH.put (r.cells NC) a o' = (f r).cells NC)
    (hia : ∀ q, (f q).ia = q.ia ∧ (f q).node = q.node) : AH.put (SC NC TC σ ++ R) a o' = SC NC TC { σ with recs := updR' σ.recs r.node f } ++ R := by
  have hk : a ∈ AH.keys (RC NC σ.recs) := by
    obtain ⟨p, hp, rfl⟩ := List.mem_map.mp ha
    exact mem_keys (mem_rc hr hp)
  have hkvs : SS.kvs { σ with recs := updR' σ.recs r.node f } = σ.kvs := by
    unfold SS.kvs updR'
    rw [List.map_map]
    refine List.map_congr_left fun q _ => ?_
    simp only [Function.comp]
    split
    · rw [(hia q).1, (hia q).2]
    · rfl
  rw [sc_keys] at hn
  simp only [List.nodup_cons, List.mem_cons, List.mem_append, not_or] at hn
  obtain ⟨⟨_, _, ⟨_, n1⟩, _⟩, ⟨_, ⟨_, n2⟩, _⟩, ⟨⟨_, n3⟩, _⟩, n4⟩ := hn
  have hna := List.nodup_append.mp n4
  have hnb := List.nodup_append.mp hna.1
  have h1 : a ∉ R.keys := fun hm => hna.2.2 a (List.mem_append_right _ hk) a hm rfl
  have h2 : a ∉ σ.rc.keys := fun hm => hnb.2.2 a hm a hk rfl
  rw [put_append, put_none h1]
  congr 1
  show AH.put ((σ.sa, _) :: (σ.sd, _) :: (σ.nd, _) :: (σ.rc ++ RC NC σ.recs)) a o' = (σ.sa, _) :: (σ.sd, _) :: (σ.nd, AO.dict (SS.kvs { σ with recs := updR' σ.recs r.node f }) σ.ep) :: (SS.rc { σ with recs := updR' σ.recs r.node f } ++ RC NC (updR' σ.recs r.node f))
  have q1 : ¬ σ.sa = a := fun e => n1 (by rw [e]; exact hk)
  have q2 : ¬ σ.sd = a := fun e => n2 (by rw [e]; exact hk)
  have q3 : ¬ σ.nd = a := fun e => n3 (by rw [e]; exact hk)
  rw [hkvs, put_cons, put_cons, put_cons, if_neg q1, if_neg q2, if_neg q3, put_append, put_none h2, put_rc ha hf hr hnb.2.1 ok.nodes]
  rfl
theorem Ok_upd {σ : SS} {k : Int} {f : NI → NI} (ok : σ.Ok) (hf : ∀ q, (f q).node = q.node) : SS.Ok { σ with recs := updR' σ.recs k f } := by
  refine ⟨ok.fs, ok.len, ?_⟩
  have : (updR' σ.recs k f).map (·.node) = σ.recs.map (·.node) := by
    unfold updR'
    rw [List.map_map]
    refine List.map_congr_left fun q _ => ?_
    simp only [Function.comp]
    split
    · exact hf q
    · rfl
  show ((updR' σ.recs k f).map (·.node)).Nodup
  rw [this]; exact ok.nodes
theorem cells_ne {NC : Addr} {r : NI} (hn : (AH.keys (r.cells NC)).Nodup) : r.ia ≠ r.id ∧ r.ia ≠ r.la ∧ r.id ≠ r.la := by
  simp only [NI.cells, AH.keys, List.map_cons, List.map_nil, List.nodup_cons, List.mem_cons, not_or] at hn
  exact ⟨hn.1.1, hn.1.2.1, hn.2.1.1⟩
theorem rec_nodup {NC TC : Addr} {σ : SS} {R : AH} {r : NI} (hn : (AH.keys (SC NC TC σ ++ R)).Nodup) (hr : r ∈ σ.recs) : (AH.keys (r.cells NC)).Nodup := by
  rw [sc_keys] at hn
  simp only [List.nodup_cons] at hn
  have h1 := (List.nodup_append.mp (List.nodup_append.mp hn.2.2.2).1).2.1
  obtain ⟨l1, l2, e⟩ := List.append_of_mem hr
  unfold RC at h1
  rw [e, List.flatMap_append, List.flatMap_cons, keys_append, keys_append] at h1
  exact (List.nodup_append.mp (List.nodup_append.mp h1).2.1).1
end Mine

namespace Mine
open PySem PySem.W PyProof.Rows
open Sem (wp)

section
variable {C : Cfg} {A : Around} {fx : Fx} {m : Lo} {H : AH} {X : Value → Lo → AH → Prop} {Q : Value → Lo → AH → Prop}
theorem call_get_some {d : Addr} {kvs : List (Int × Value)} {ep : Nat} {k : Int} {v : Value} (hd : (d, AO.dict kvs ep) ∈ H) (hv : dval kvs k = some v) (h : Q v m H) : CALL C A fx (.builtin "dict.get") [.ref d, vI k] m H Q X := call_get hd (by rw [hv]; exact h)
theorem call_get_none {d : Addr} {kvs : List (Int × Value)} {ep : Nat} {k : Int} (hd : (d, AO.dict kvs ep) ∈ H) (hv : dval kvs k = none) (h : Q .none m H) : CALL C A fx (.builtin "dict.get") [.ref d, vI k] m H Q X := call_get hd (by rw [hv]; exact h)
end

noncomputable abbrev G := List (Int × Int × List Int)
noncomputable def gEns (g : G) (k : Int) : G := if k ∈ g.map (·.1) then g else g ++ [(k, 0, [])]
noncomputable def gUpd (g : G) (k : Int) (f : Int × List Int → Int × List Int) : G := g.map fun p => if p.1 = k then (p.1, f p.2) else p
theorem g_nodes {σ : SS} : σ.g.map (·.1) = σ.recs.map (·.node) := by unfold SS.g; rw [List.map_map]; rfl
theorem kvs_nodes {σ : SS} : σ.kvs.map (·.1) = σ.recs.map (·.node) := by unfold SS.kvs; rw [List.map_map]; rfl
theorem dval_mem {kvs : List (Int × Value)} {k : Int} {v : Value} (hn : (kvs.map (·.1)).Nodup) (h : (k, v) ∈ kvs) : dval kvs k = some v := by
  unfold dval
  induction kvs with
  | nil => cases h
  | cons p r ih =>
    rw [List.map_cons, List.nodup_cons] at hn
    rw [List.find?_cons]
    by_cases hp : p.1 = k
    · rcases List.mem_cons.mp h with e | h
      · rw [← e]; simp
      · exact absurd (by rw [hp]; exact List.mem_map_of_mem h) hn.1
    · rw [decide_eq_false hp]
      rcases List.mem_cons.mp h with e | h
      · rw [← e] at hp; exact absurd rfl hp
      · exact ih hn.2 h
theorem dval_not {kvs : List (Int × Value)} {k : Int} (h : k ∉ kvs.map (·.1)) : dval kvs k = none := by
  cases q : dval kvs k with
  | none => rfl
  | some v =>
    have := dval_isSome (kvs := kvs) (k := k)
    rw [q, decide_eq_false h] at this
    cases this
theorem stored_not {kvs : List (Int × Value)} {k : Int} {v : Value} (h : k ∉ kvs.map (·.1)) : stored kvs k v = kvs ++ [(k, v)] := by
  unfold stored
  rw [if_neg]
  intro hm
  rw [List.any_eq_true] at hm
  obtain ⟨p, hp, e⟩ := hm
  exact h (by rw [← of_decide_eq_true e]; exact List.mem_map_of_mem hp)
theorem dval_rec {σ : SS} {r : NI} (ok : σ.Ok) (hr : r ∈ σ.recs) : dval σ.kvs r.node = some (.ref r.ia) :=
  dval_mem (by rw [kvs_nodes]; exact ok.nodes) (List.mem_map.mpr ⟨r, hr, rfl⟩)
theorem rec_of {σ : SS} {k : Int} (h : k ∈ σ.recs.map (·.node)) : ∃ r ∈ σ.recs, r.node = k := by
  obtain ⟨r, hr, e⟩ := List.mem_map.mp h
  exact ⟨r, hr, e⟩
structure SS.Same (σ σ' : SS) : Prop where
  sa : σ'.sa = σ.sa
  sd : σ'.sd = σ.sd
  nd : σ'.nd = σ.nd
  rdy : σ'.rdy = σ.rdy
  po : σ'.po = σ.po
  nf : σ'.nf = σ.nf
theorem SS.Same.refl {σ : SS} : SS.Same σ σ := ⟨rfl, rfl, rfl, rfl, rfl, rfl⟩
theorem SS.Same.trans {σ σ' σ'' : SS} (a : SS.Same σ σ') (b : SS.Same σ' σ'') : SS.Same σ σ'' := ⟨b.sa.trans a.sa, b.sd.trans a.sd, b.nd.trans a.nd, b.rdy.trans a.rdy, b.po.trans a.po, b.nf.trans a.nf⟩
noncomputable def SS.more (σ : SS) (r : NI) (ep : Nat) : SS := { σ with recs := σ.recs ++ [r], ep := ep }
theorem more_ok {σ : SS} {r : NI} {ep : Nat} (ok : σ.Ok) (h : r.node ∉ σ.recs.map (·.node)) : (σ.more r ep).Ok := by
  refine ⟨ok.fs, ok.len, ?_⟩
  show ((σ.recs ++ [r]).map (·.node)).Nodup
  rw [List.map_append, List.nodup_append]
  exact ⟨ok.nodes, by simp, fun a ha b hb e => by simp at hb; subst hb; exact h (e ▸ ha)⟩
theorem more_g {σ : SS} {k : Int} {ia id la ep : Nat} (h : k ∉ σ.recs.map (·.node)) : (σ.more ⟨k, ia, id, la, 0, []⟩ ep).g = gEns σ.g k := by
  unfold gEns
  rw [g_nodes, if_neg h]
  unfold SS.g SS.more
  rw [List.map_append]
  rfl
theorem g_upd {σ : SS} {k : Int} {f : NI → NI} {F : Int × List Int → Int × List Int} (h : ∀ q, (f q).node = q.node ∧ ((f q).np, (f q).su) = F (q.np, q.su)) : SS.g { σ with recs := updR' σ.recs k f } = gUpd σ.g k F := by
  unfold SS.g gUpd updR'
  rw [List.map_map, List.map_map]
  refine List.map_congr_left fun q _ => ?_
  simp only [Function.comp]
  by_cases e : q.node = k
  · rw [if_pos e, if_pos e, (h q).1, ← (h q).2]
  · rw [if_neg e, if_neg e]
theorem nsPut_len {fs : List (PySem.Str × Value)} {n : PySem.Str} {v w : Value} (h : fs.lookup n = some w) : (nsPut fs n v).length ≤ fs.length := by
  unfold nsPut
  rw [List.length_cons]
  have : ∀ {l : List (PySem.Str × Value)}, l.lookup n = some w → (l.filter fun q => !(q.1 == n)).length + 1 ≤ l.length := by
    intro l
    induction l with
    | nil => intro h; cases h
    | cons p r ih =>
      obtain ⟨k, x⟩ := p
      intro h
      rw [List.lookup_cons] at h
      rw [List.filter_cons]
      by_cases hk : k = n
      · subst hk
        simp only [beq_self_eq_true, Bool.not_true, Bool.false_eq_true, if_false, List.length_cons]
        have := List.length_filter_le (fun q : PySem.Str × Value => !(q.1 == k)) r
        omega
      · have e1 : (n == k) = false := beq_eq_false_iff_ne.mpr (Ne.symm hk)
        rw [e1] at h
        have e2 : (!(k == n)) = true := by simp [hk]
        rw [if_pos e2, List.length_cons, List.length_cons]
        have := ih h
        omega
  exact this h
theorem wk_more {NC TC : Addr} {σ : SS} {R : AH} {r : NI} {ep : Nat} : Wk (r.cells NC ++ ((σ.sa, .inst TC (some σ.sd) []) :: (σ.sd, .ns σ.fs) :: (σ.nd, .dict (σ.kvs ++ [(r.node, .ref r.ia)]) ep) :: (σ.rc ++ RC NC σ.recs)) ++ R) (SC NC TC (σ.more r ep) ++ R) := by
  refine Wk.perm ?_
  have e : SC NC TC (σ.more r ep) = (σ.sa, .inst TC (some σ.sd) []) :: (σ.sd, .ns σ.fs) :: (σ.nd, .dict (σ.kvs ++ [(r.node, .ref r.ia)]) ep) :: (σ.rc ++ RC NC σ.recs) ++ r.cells NC := by
    unfold SC SS.more RC SS.kvs
    rw [List.map_append, List.flatMap_append]
    simp [SS.rc]
  rw [e]
  exact List.Perm.append_right _ List.perm_append_comm
theorem put_nd {NC TC : Addr} {σ : SS} {R : AH} {kvs : List (Int × Value)} {ep : Nat} (hn : (AH.keys (SC NC TC σ ++ R)).Nodup) :
    AH.put (SC NC TC σ ++ R) σ.nd (.dict kvs ep) = ((σ.sa, .inst TC (some σ.sd) []) :: (σ.sd, .ns σ.fs) :: (σ.nd, .dict kvs ep) :: (σ.rc ++ RC NC σ.recs)) ++ R := by
  rw [sc_keys] at hn
  simp only [List.nodup_cons, List.mem_cons, List.mem_append, not_or] at hn
  obtain ⟨⟨_, n1, _⟩, ⟨n2, _⟩, ⟨⟨n3, n4⟩, n5⟩, _⟩ := hn
  rw [put_append, put_none n5]
  unfold SC
  rw [put_cons, put_cons, put_cons, if_neg n1, if_neg n2, if_pos rfl, put_append, put_none n3, put_none n4]
theorem put_sd {NC TC : Addr} {σ : SS} {R : AH} {fs : List (PySem.Str × Value)} (hn : (AH.keys (SC NC TC σ ++ R)).Nodup) :
    AH.put (SC NC TC σ ++ R) σ.sd (.ns fs) = ((σ.sa, .inst TC (some σ.sd) []) :: (σ.sd, .ns fs) :: (σ.nd, .dict σ.kvs σ.ep) :: (σ.rc ++ RC NC σ.recs)) ++ R := by
  rw [sc_keys] at hn
  simp only [List.nodup_cons, List.mem_cons, List.mem_append, not_or] at hn
  obtain ⟨⟨n1, _, _⟩, ⟨n2, ⟨n3, n4⟩, n5⟩, _⟩ := hn
  rw [put_append, put_none n5]
  unfold SC
  rw [put_cons, put_cons, put_cons, if_neg n1, if_pos rfl, if_neg (Ne.symm n2), put_append, put_none n3, put_none n4]
theorem up3 {p a b c : Addr × AO} {H : AH} (h : p ∈ H) : p ∈ a :: b :: c :: H := List.mem_cons_of_mem _ (List.mem_cons_of_mem _ (List.mem_cons_of_mem _ h))
theorem up1 {p a : Addr × AO} {H : AH} (h : p ∈ H) : p ∈ a :: H := List.mem_cons_of_mem _ h
theorem up2 {p a b : Addr × AO} {H : AH} (h : p ∈ H) : p ∈ a :: b :: H := List.mem_cons_of_mem _ (List.mem_cons_of_mem _ h)
theorem sc_sa {NC TC : Addr} {σ : SS} {R : AH} : (σ.sa, AO.inst TC (some σ.sd) []) ∈ SC NC TC σ ++ R := List.mem_cons_self
theorem sc_sd {NC TC : Addr} {σ : SS} {R : AH} : (σ.sd, AO.ns σ.fs) ∈ SC NC TC σ ++ R := List.mem_cons_of_mem _ List.mem_cons_self
theorem sc_nd {NC TC : Addr} {σ : SS} {R : AH} : (σ.nd, AO.dict σ.kvs σ.ep) ∈ SC NC TC σ ++ R := List.mem_cons_of_mem _ (List.mem_cons_of_mem _ List.mem_cons_self)
end Mine

namespace Mine
open PySem PySem.W PyProof.Rows
open Sem (wp)

section
variable {C : Cfg} {A : Around} {fx : Fx} {m m' : Lo} {H H' : AH} {X : Value → Lo → AH → Prop}
theorem exs_wk {st : List Stmt} {Q : Flow → Lo → AH → Prop} (hm : WkL m m') (hH : Wk H H') (h : EXS C A fx st m' H' Q X) : EXS C A fx st m H Q X := aw_wk hm hH h
theorem ex_wk {st : Stmt} {Q : Flow → Lo → AH → Prop} (hm : WkL m m') (hH : Wk H H') (h : EX C A fx st m' H' Q X) : EX C A fx st m H Q X := aw_wk hm hH h
theorem it_wk {e : PySem.Expr} {Q : Bool → Lo → AH → Prop} (hm : WkL m m') (hH : Wk H H') (h : IT C A fx e m' H' Q X) : IT C A fx e m H Q X := aw_wk hm hH h
theorem asg_wk {e : PySem.Expr} {v : Value} {Q : Lo → AH → Prop} (hm : WkL m m') (hH : Wk H H') (h : ASG C A fx e v m' H' Q X) : ASG C A fx e v m H Q X := fun a ha => aw_wk hm hH (h a ha)
theorem asgs_wk {e : List PySem.Expr} {v : Value} {Q : Lo → AH → Prop} (hm : WkL m m') (hH : Wk H H') (h : ASGS C A fx e v m' H' Q X) : ASGS C A fx e v m H Q X := fun a ha => aw_wk hm hH (h a ha)
end

theorem kp_fnK {C : Cfg} {A : Around} {fx : Fx} {m : Lo} {H : AH} {K : Frag} {f : Addr} {o : Obj} {fd : FuncData} (T : Top C K) (ho : K.lookup f = some o) (hd : o.data = .func fd) : KP C A fx (.ref f) m H := kp_fn (T.X f o ho) hd
theorem SS.Ok.none {σ : SS} (ok : σ.Ok) {y : PySem.Str} (h : (y = "_node2info" ∨ y = "_ready_nodes" ∨ y = "_npassedout" ∨ y = "_nfinished") → False) : σ.fs.lookup y = none := by
  rw [ok.fs]
  unfold SS.look
  rw [if_neg fun e => h (.inl e), if_neg fun e => h (.inr (.inl e)), if_neg fun e => h (.inr (.inr (.inl e))), if_neg fun e => h (.inr (.inr (.inr e)))]
theorem rec_mem {NC TC : Addr} {σ : SS} {R : AH} {r : NI} {p : Addr × AO} (hr : r ∈ σ.recs) (hp : p ∈ r.cells NC) : p ∈ SC NC TC σ ++ R := List.mem_append_left _ (mem_sc (mem_rc hr hp))
theorem rec_ia {NC TC : Addr} {σ : SS} {R : AH} {r : NI} (hr : r ∈ σ.recs) : (r.ia, AO.inst NC (some r.id) [some (vI r.node), some (vI r.np), some (.ref r.la)]) ∈ SC NC TC σ ++ R := rec_mem hr List.mem_cons_self
theorem rec_id {NC TC : Addr} {σ : SS} {R : AH} {r : NI} (hr : r ∈ σ.recs) : (r.id, AO.ns []) ∈ SC NC TC σ ++ R := rec_mem hr (List.mem_cons_of_mem _ List.mem_cons_self)
theorem rec_la {NC TC : Addr} {σ : SS} {R : AH} {r : NI} (hr : r ∈ σ.recs) : (r.la, AO.list (iv r.su)) ∈ SC NC TC σ ++ R := rec_mem hr (List.mem_cons_of_mem _ (List.mem_cons_of_mem _ List.mem_cons_self))

theorem put_npf {NC TC : Addr} {σ : SS} {R : AH} {r : NI} (f : Int → Int) (hn : (AH.keys (SC NC TC σ ++ R)).Nodup) (ok : σ.Ok) (hr : r ∈ σ.recs) :
    AH.put (SC NC TC σ ++ R) r.ia (.inst NC (some r.id) [some (vI r.node), some (vI (f r.np)), some (.ref r.la)]) = SC NC TC { σ with recs := updR' σ.recs r.node fun q => { q with np := f q.np } } ++ R := by
  obtain ⟨h1, h2, h3⟩ := cells_ne (rec_nodup hn hr)
  refine put_rec hn ok hr List.mem_cons_self ?_ fun q => ⟨rfl, rfl⟩
  simp only [NI.cells, put_cons, if_pos rfl, if_neg (Ne.symm h1), if_neg (Ne.symm h2)]
  rfl
theorem put_suf {NC TC : Addr} {σ : SS} {R : AH} {r : NI} (f : List Int → List Int) (hn : (AH.keys (SC NC TC σ ++ R)).Nodup) (ok : σ.Ok) (hr : r ∈ σ.recs) :
    AH.put (SC NC TC σ ++ R) r.la (.list (iv (f r.su))) = SC NC TC { σ with recs := updR' σ.recs r.node fun q => { q with su := f q.su } } ++ R := by
  obtain ⟨h1, h2, h3⟩ := cells_ne (rec_nodup hn hr)
  refine put_rec hn ok hr (List.mem_cons_of_mem _ (List.mem_cons_of_mem _ List.mem_cons_self)) ?_ fun q => ⟨rfl, rfl⟩
  simp only [NI.cells, put_cons, if_pos rfl, if_neg h2, if_neg h3]
  rfl
theorem exs_nodup {C : Cfg} {A : Around} {fx : Fx} {m : Lo} {H : AH} {X : Value → Lo → AH → Prop} {st : List Stmt} {Q : Flow → Lo → AH → Prop} (h : H.keys.Nodup → EXS C A fx st m H Q X) : EXS C A fx st m H Q X := aw_nodup h

theorem WkL.all {m m' : Lo} (h : m'.foldr (fun p q => p ∈ m ∧ q) True) : WkL m m' := fun x v hm => by
  induction m' with
  | nil => cases hm
  | cons p r ih =>
    rcases List.mem_cons.mp hm with e | hm
    · rw [e]; exact h.1
    · exact ih h.2 hm

noncomputable def gSu (g : G) (p k : Int) : G := gUpd g p fun x => (x.1, x.2 ++ [k])
noncomputable def gNp (g : G) (k v : Int) : G := gUpd g k fun x => (x.1 + v, x.2)
noncomputable def gPred (k : Int) (g : G) (p : Int) : G := gSu (gEns g p) p k
noncomputable def gAdd (g : G) (k : Int) (ps : List Int) : G := ps.foldl (gPred k) (gNp (gEns g k) k ps.length)
structure Bd (g : G) (b : Nat) : Prop where
  len : g.length ≤ b
  su : ∀ p ∈ g, p.2.2.length ≤ b
theorem Bd.mono {g : G} {b c : Nat} (h : Bd g b) (hbc : b ≤ c) : Bd g c := ⟨Nat.le_trans h.len hbc, fun p hp => Nat.le_trans (h.su p hp) hbc⟩
theorem Bd.ens {g : G} {b : Nat} {k : Int} (h : Bd g b) : Bd (gEns g k) (b + 1) := by
  unfold gEns
  split
  · exact h.mono (Nat.le_succ _)
  · refine ⟨by rw [List.length_append]; have := h.len; simp; omega, fun p hp => ?_⟩
    rcases List.mem_append.mp hp with hp | hp
    · exact Nat.le_trans (h.su p hp) (Nat.le_succ _)
    · rw [List.mem_singleton.mp hp]; exact Nat.zero_le _
theorem Bd.sux {g : G} {b : Nat} {p k : Int} (h : Bd g b) : Bd (gSu g p k) (b + 1) := by
  unfold gSu gUpd
  refine ⟨by rw [List.length_map]; have := h.len; omega, fun q hq => ?_⟩
  obtain ⟨r, hr, rfl⟩ := List.mem_map.mp hq
  have := h.su r hr
  split
  · show (r.2.2 ++ [k]).length ≤ _
    rw [List.length_append]; simp; omega
  · omega
theorem Bd.np {g : G} {b : Nat} {k v : Int} (h : Bd g b) : Bd (gNp g k v) b := by
  unfold gNp gUpd
  refine ⟨by rw [List.length_map]; exact h.len, fun q hq => ?_⟩
  obtain ⟨r, hr, rfl⟩ := List.mem_map.mp hq
  have := h.su r hr
  split <;> exact this
theorem Bd.pred {g : G} {b : Nat} {p k : Int} (h : Bd g b) : Bd (gPred k g p) (b + 2) := h.ens.sux
theorem Bd.fold {k : Int} : ∀ (ps : List Int) {g : G} {b : Nat}, Bd g b → Bd (ps.foldl (gPred k) g) (b + 2 * ps.length)
  | [], _, _, h => h
  | p :: r, g, b, h => by
    have := Bd.fold (k := k) r (h.pred (p := p) (k := k))
    rw [List.length_cons]
    exact this.mono (by omega)
theorem Bd.add {g : G} {b : Nat} {k : Int} {ps : List Int} (h : Bd g b) : Bd (gAdd g k ps) (b + 1 + 2 * ps.length) := Bd.fold ps h.ens.np
theorem recs_len {σ : SS} : σ.recs.length = σ.g.length := by unfold SS.g; rw [List.length_map]
theorem recs_su {σ : SS} {b : Nat} (h : Bd σ.g b) {r : NI} (hr : r ∈ σ.recs) : r.su.length ≤ b := h.su (r.node, r.np, r.su) (List.mem_map.mpr ⟨r, hr, rfl⟩)
theorem iv_append (xs ys : List Int) : iv (xs ++ ys) = iv xs ++ iv ys := List.map_append
theorem iv_get {xs : List Int} {i : Nat} {v : Value} (h : (iv xs)[i]? = some v) : ∃ p, xs[i]? = some p ∧ v = vI p := by
  unfold iv at h
  rw [List.getElem?_map] at h
  obtain ⟨p, h1, h2⟩ := Option.map_eq_some_iff.mp h
  exact ⟨p, h1, h2.symm⟩
theorem fold_take {α β : Type} (f : β → α → β) (b : β) {xs : List α} {i : Nat} {x : α} (h : xs[i]? = some x) : (xs.take (i + 1)).foldl f b = f ((xs.take i).foldl f b) x := by
  rw [List.take_add_one, h, List.foldl_append]; rfl
theorem upd_mem {recs : List NI} {k : Int} {f : NI → NI} {r : NI} (hr : r ∈ recs) (e : r.node = k) : f r ∈ updR' recs k f := List.mem_map.mpr ⟨r, hr, if_pos e⟩
noncomputable def gBuild (kl : List (Int × List Int)) : G := kl.foldl (fun g p => gAdd g p.1 p.2) []
theorem Bd.build : ∀ (kl : List (Int × List Int)) {g : G} {b : Nat}, Bd g b → Bd (kl.foldl (fun g p => gAdd g p.1 p.2) g) (b + (kl.map fun p => 1 + 2 * p.2.length).sum)
  | [], _, _, h => h
  | p :: r, g, b, h => by
    have := Bd.build r (h.add (k := p.1) (ps := p.2))
    rw [List.map_cons, List.sum_cons]
    exact this.mono (by omega)
theorem kp_methK {C : Cfg} {A : Around} {fx : Fx} {m : Lo} {H : AH} {K : Frag} {f g : Addr} {vs : List Value} {o : Obj} {fd : FuncData} (T : Top C K) (hf : (f, AO.flds (.type "method") (.ref g :: vs)) ∈ H) (ho : K.lookup g = some o) (hd : o.data = .func fd) : KP C A fx (.ref f) m H := kp_method hf (T.X g o ho) hd
end Mine

namespace Mine
open PySem PySem.W PyProof.Rows
open Sem (wp)

theorem put_ra {NC TC : Addr} {σ : SS} {R : AH} {ra : Addr} {l l' : List Int} (hn : (AH.keys (SC NC TC σ ++ R)).Nodup) (hr : σ.rdy = some (ra, l)) :
    AH.put (SC NC TC σ ++ R) ra (.list (iv l')) = SC NC TC { σ with rdy := some (ra, l') } ++ R := by
  have hrc : σ.rc = [(ra, .list (iv l))] := by unfold SS.rc; rw [hr]
  rw [sc_keys, hrc] at hn
  simp only [AH.keys, List.map_cons, List.map_nil, List.nodup_cons, List.mem_cons, List.mem_append, not_or, List.not_mem_nil, false_or, List.cons_append, List.nil_append] at hn
  obtain ⟨⟨_, _, n1, _⟩, ⟨_, n2, _⟩, ⟨n3, _⟩, ⟨n4, n5⟩, _⟩ := hn
  rw [put_append, put_none n5]
  congr 1
  unfold SC
  rw [hrc, put_cons, put_cons, put_cons, if_neg n1, if_neg n2, if_neg n3, put_append, put_none n4, put_cons, if_pos rfl]
  rfl
theorem sc_ra {NC TC : Addr} {σ : SS} {R : AH} {ra : Addr} {l : List Int} (hr : σ.rdy = some (ra, l)) : (ra, AO.list (iv l)) ∈ SC NC TC σ ++ R := by
  refine List.mem_append_left _ (List.mem_cons_of_mem _ (List.mem_cons_of_mem _ (List.mem_cons_of_mem _ (List.mem_append_left _ ?_))))
  unfold SS.rc
  rw [hr]
  exact List.mem_singleton.mpr rfl
theorem Ok_rdy {σ : SS} {ra : Addr} {l l' : List Int} (ok : σ.Ok) (hr : σ.rdy = some (ra, l)) : SS.Ok { σ with rdy := some (ra, l') } := by
  refine ⟨fun y => ?_, ok.len, ok.nodes⟩
  have := ok.fs y
  show σ.fs.lookup y = _
  rw [this]
  unfold SS.look SS.rv
  rw [hr]
theorem put_fs {NC TC : Addr} {σ : SS} {R : AH} {fs : List (PySem.Str × Value)} (hn : (AH.keys (SC NC TC σ ++ R)).Nodup) : AH.put (SC NC TC σ ++ R) σ.sd (.ns fs) = SC NC TC { σ with fs := fs } ++ R := put_sd hn
theorem Ok_po {σ : SS} {v : Int} (ok : σ.Ok) : SS.Ok { σ with fs := nsPut σ.fs "_npassedout" (vI v), po := v } := by
  refine ⟨fun y => ?_, Nat.le_trans (nsPut_len (w := vI σ.po) (by rw [ok.fs]; rfl)) ok.len, ok.nodes⟩
  rw [nsPut_lookup, ok.fs]
  unfold SS.look
  by_cases h : y = "_npassedout"
  · subst h; rfl
  · rw [if_neg h, if_neg h, if_neg h]; rfl
theorem Ok_nf {σ : SS} {v : Int} (ok : σ.Ok) : SS.Ok { σ with fs := nsPut σ.fs "_nfinished" (vI v), nf := v } := by
  refine ⟨fun y => ?_, Nat.le_trans (nsPut_len (w := vI σ.nf) (by rw [ok.fs]; rfl)) ok.len, ok.nodes⟩
  rw [nsPut_lookup, ok.fs]
  unfold SS.look
  by_cases h : y = "_nfinished"
  · subst h; rfl
  · rw [if_neg h, if_neg h, if_neg h]; rfl
noncomputable def gSet (v : Int) (g : G) (x : Int) : G := gUpd g x fun y => (v, y.2)
theorem upd_nodes {g : G} {k : Int} {f : Int × List Int → Int × List Int} : (gUpd g k f).map (·.1) = g.map (·.1) := by
  unfold gUpd
  rw [List.map_map]
  refine List.map_congr_left fun p _ => ?_
  simp only [Function.comp]
  split <;> rfl
theorem set_nodes {v : Int} : ∀ {rs : List Int} {g : G}, (rs.foldl (gSet v) g).map (·.1) = g.map (·.1)
  | [], _ => rfl
  | x :: r, g => by rw [List.foldl_cons, set_nodes]; exact upd_nodes
section
variable {C : Cfg} {A : Around} {fx : Fx} {m : Lo} {R : AH} {X : Value → Lo → AH → Prop} {st : List Stmt} {Q : Flow → Lo → AH → Prop} {NC TC : Addr} {σ : SS} {r : NI}
theorem exs_np (f : Int → Int) {v : Value} (ok : σ.Ok) (hr : r ∈ σ.recs) (hv : v = vI (f r.np)) (h : EXS C A fx st m (SC NC TC { σ with recs := updR' σ.recs r.node fun q => { q with np := f q.np } } ++ R) Q X) :
    EXS C A fx st m (AH.put (SC NC TC σ ++ R) r.ia (.inst NC (some r.id) (slSet [some (vI r.node), some (vI r.np), some (.ref r.la)] 1 v))) Q X := exs_nodup fun hn => by
  rw [AH.keys_put] at hn
  rw [hv, show slSet [some (vI r.node), some (vI r.np), some (Value.ref r.la)] 1 (vI (f r.np)) = [some (vI r.node), some (vI (f r.np)), some (Value.ref r.la)] from rfl, put_npf f hn ok hr]
  exact h
theorem exs_ra {ra : Addr} {l l' : List Int} {xs : List Value} (hr : σ.rdy = some (ra, l)) (hv : xs = iv l') (h : EXS C A fx st m (SC NC TC { σ with rdy := some (ra, l') } ++ R) Q X) :
    EXS C A fx st m (AH.put (SC NC TC σ ++ R) ra (.list xs)) Q X := exs_nodup fun hn => by
  rw [AH.keys_put] at hn
  rw [hv, put_ra hn hr]
  exact h
theorem exs_fs {fs : List (PySem.Str × Value)} (h : EXS C A fx st m (SC NC TC { σ with fs := fs } ++ R) Q X) : EXS C A fx st m (AH.put (SC NC TC σ ++ R) σ.sd (.ns fs)) Q X := exs_nodup fun hn => by
  rw [AH.keys_put] at hn
  rw [put_fs hn]
  exact h
end
theorem g_np {σ : SS} {k : Int} {f : Int → Int} : SS.g { σ with recs := updR' σ.recs k fun q => { q with np := f q.np } } = gUpd σ.g k fun x => (f x.1, x.2) := g_upd fun _ => ⟨rfl, rfl⟩
end Mine

namespace Mine
open PySem PySem.W PyProof.Rows
open Sem (wp)

noncomputable def gAt (g : G) (k : Int) : Option (Int × List Int) := (g.find? fun p => p.1 = k).map (·.2)
theorem gAt_mem {g : G} {k : Int} {x : Int × List Int} (hn : (g.map (·.1)).Nodup) (h : (k, x) ∈ g) : gAt g k = some x := by
  unfold gAt
  induction g with
  | nil => cases h
  | cons p r ih =>
    rw [List.map_cons, List.nodup_cons] at hn
    rw [List.find?_cons]
    by_cases hp : p.1 = k
    · rcases List.mem_cons.mp h with e | h
      · rw [← e]; simp
      · exact absurd (by rw [hp]; exact List.mem_map_of_mem h) hn.1
    · rw [decide_eq_false hp]
      rcases List.mem_cons.mp h with e | h
      · rw [← e] at hp; exact absurd rfl hp
      · exact ih hn.2 h
theorem mem_gAt {g : G} {k : Int} {x : Int × List Int} (h : gAt g k = some x) : (k, x) ∈ g := by
  unfold gAt at h
  obtain ⟨p, h1, h2⟩ := Option.map_eq_some_iff.mp h
  have h3 := List.find?_some h1
  have h4 := List.mem_of_find?_eq_some h1
  rw [← of_decide_eq_true h3, ← h2]
  exact h4
theorem rec_gAt {σ : SS} {r : NI} (ok : σ.Ok) (hr : r ∈ σ.recs) : gAt σ.g r.node = some (r.np, r.su) :=
  gAt_mem (by rw [g_nodes]; exact ok.nodes) (List.mem_map.mpr ⟨r, hr, rfl⟩)
theorem gAt_upd {g : G} {k j : Int} {f : Int × List Int → Int × List Int} : gAt (gUpd g k f) j = (gAt g j).map fun x => if j = k then f x else x := by
  unfold gAt gUpd
  induction g with
  | nil => rfl
  | cons p r ih =>
    rw [List.map_cons, List.find?_cons, List.find?_cons]
    by_cases hj : p.1 = j
    · have e1 : (if p.1 = k then (p.1, f p.2) else p).1 = j := by split <;> exact hj
      rw [decide_eq_true e1, decide_eq_true hj]
      simp only [Option.map_some]
      congr 1
      by_cases hk : p.1 = k
      · rw [if_pos hk, if_pos (hj ▸ hk)]
      · rw [if_neg hk, if_neg (fun e => hk (hj.trans e))]
    · have e1 : ¬ (if p.1 = k then (p.1, f p.2) else p).1 = j := by split <;> exact hj
      rw [decide_eq_false e1, decide_eq_false hj]
      exact ih
noncomputable def gDec (st : G × List Int) (s : Int) : G × List Int :=
  let g' := gUpd st.1 s fun x => (x.1 - 1, x.2)
  (g', if (gAt g' s).map (·.1) = some 0 then st.2 ++ [s] else st.2)
noncomputable def gDone1 (st : G × List Int) (x : Int) : G × List Int := (((gAt st.1 x).map (·.2)).getD []).foldl gDec (gSet (-2) st.1 x, st.2)
noncomputable def gDone (st : G × List Int) (xs : List Int) : G × List Int := xs.foldl gDone1 st
theorem dec_nodes {st : G × List Int} {s : Int} : (gDec st s).1.map (·.1) = st.1.map (·.1) := upd_nodes (g := st.1) (k := s) (f := fun x => (x.1 - 1, x.2))
theorem decs_nodes : ∀ {su : List Int} {st : G × List Int}, (su.foldl gDec st).1.map (·.1) = st.1.map (·.1)
  | [], _ => rfl
  | s :: r, st => by rw [List.foldl_cons, decs_nodes, dec_nodes]
theorem done1_nodes {st : G × List Int} {x : Int} : (gDone1 st x).1.map (·.1) = st.1.map (·.1) := by
  unfold gDone1
  rw [decs_nodes]
  exact upd_nodes (g := st.1) (k := x) (f := fun y => (-2, y.2))
theorem done_nodes : ∀ {xs : List Int} {st : G × List Int}, (xs.foldl gDone1 st).1.map (·.1) = st.1.map (·.1)
  | [], _ => rfl
  | s :: r, st => by rw [List.foldl_cons, done_nodes, done1_nodes]
theorem dec_su {st : G × List Int} {s j : Int} : (gAt (gDec st s).1 j).map (·.2) = (gAt st.1 j).map (·.2) := by
  show (gAt (gUpd st.1 s fun x => (x.1 - 1, x.2)) j).map (·.2) = _
  rw [gAt_upd, Option.map_map]
  congr 1
  funext x
  simp only [Function.comp]
  split <;> rfl
theorem decs_su {j : Int} : ∀ {su : List Int} {st : G × List Int}, (gAt (su.foldl gDec st).1 j).map (·.2) = (gAt st.1 j).map (·.2)
  | [], _ => rfl
  | s :: r, st => by rw [List.foldl_cons, decs_su, dec_su]
theorem set_su {g : G} {v x j : Int} : (gAt (gSet v g x) j).map (·.2) = (gAt g j).map (·.2) := by
  unfold gSet
  rw [gAt_upd, Option.map_map]
  congr 1
  funext y
  simp only [Function.comp]
  split <;> rfl
theorem done1_su {st : G × List Int} {x j : Int} : (gAt (gDone1 st x).1 j).map (·.2) = (gAt st.1 j).map (·.2) := by
  unfold gDone1
  rw [decs_su]
  exact set_su
theorem done_su {j : Int} : ∀ {xs : List Int} {st : G × List Int}, (gAt (xs.foldl gDone1 st).1 j).map (·.2) = (gAt st.1 j).map (·.2)
  | [], _ => rfl
  | s :: r, st => by rw [List.foldl_cons, done_su, done1_su]
theorem decs_len : ∀ {su : List Int} {st : G × List Int}, (su.foldl gDec st).2.length ≤ st.2.length + su.length
  | [], _ => Nat.le_refl _
  | s :: r, st => by
    rw [List.foldl_cons]
    refine Nat.le_trans decs_len ?_
    have : (gDec st s).2.length ≤ st.2.length + 1 := by
      unfold gDec
      dsimp only
      split
      · rw [List.length_append]; exact Nat.le_refl _
      · omega
    rw [List.length_cons]
    omega
theorem done_len {b : Nat} (st : G × List Int) (h : ∀ j, (((gAt st.1 j).map (·.2)).getD []).length ≤ b) : ∀ (xs : List Int), (gDone st xs).2.length ≤ st.2.length + xs.length * b := by
  intro xs
  induction xs generalizing st with
  | nil => show st.2.length ≤ _; omega
  | cons x r ih =>
    have h1 : ∀ j, (((gAt (gDone1 st x).1 j).map (·.2)).getD []).length ≤ b := fun j => by rw [done1_su]; exact h j
    have h2 := ih (gDone1 st x) h1
    have h3 : (gDone1 st x).2.length ≤ st.2.length + b := by
      unfold gDone1
      refine Nat.le_trans decs_len ?_
      have := h x
      show st.2.length + _ ≤ _
      omega
    rw [List.length_cons, Nat.succ_mul]
    show (gDone (gDone1 st x) r).2.length ≤ _
    omega
end Mine

namespace Mine
open PySem PySem.W PyProof.Rows
open Sem (wp)

section
variable {C : Cfg} {A : Around} {fx : Fx} {m m' : Lo} {H H' : AH} {X : Value → Lo → AH → Prop}
theorem ev_joined1 {e : PySem.Expr} {pos : Pos} {Q : Value → Lo → AH → Prop} (h : EV C A fx e m H Q X) : EV C A fx (.JoinedStr [e] pos) m H Q X := h
end

/-! ### rings -/
noncomputable def gSuc (g : G) (k : Int) : List Int := ((gAt g k).map (·.2)).getD []
structure Fin' (g : G) (F : List Int) : Prop where
  all : ∀ k ∈ g.map (·.1), k ∈ F
  sub : ∀ k ∈ F, k ∈ g.map (·.1)
  nodup : F.Nodup
  succ : ∀ i k, F[i]? = some k → ∀ s ∈ gSuc g k, s ∈ F.take i
noncomputable def Chain' (g : G) : List Int → Prop
  | [] => True
  | [_] => True
  | a :: b :: r => b ∈ gSuc g a ∧ Chain' g (b :: r)
noncomputable def Ring (g : G) (v : List Int) : Prop := ∃ a r, v = a :: r ++ [a] ∧ Chain' g v
end Mine

namespace Mine
open PySem PySem.W PyProof.Rows
open Sem (wp)

/-! ### the search for a ring: its stack, top first -/
structure FR where
  node : Int
  w : Addr
  I : Addr
  la : Addr
  idx : Nat
noncomputable def FR.cells (f : FR) : AH := [(f.w, .flds (.type "method-wrapper") [.builtin "list_iterator.__next__", .ref f.I]), (f.I, .flds (.type "list_iterator") [.ref f.la, vI f.idx])]
noncomputable def Tak (g : G) (fin : List Int) : Option Int → List FR → Prop
  | _, [] => True
  | c, f :: r => (∀ q s, q < f.idx → (gSuc g f.node)[q]? = some s → s ∈ fin ∨ (q + 1 = f.idx ∧ c = some s)) ∧ (∀ s, c = some s → s ∈ gSuc g f.node) ∧ Tak g fin (some f.node) r
theorem Tak.push {g : G} {fin : List Int} {k : Int} {fr : List FR} {w I la : Addr} (h : Tak g fin (some k) fr) : Tak g fin none (⟨k, w, I, la, 0⟩ :: fr) :=
  ⟨fun q s hq => absurd hq (Nat.not_lt_zero _), fun s e => (by cases e), h⟩
theorem Tak.take {g : G} {fin : List Int} {s : Int} {f : FR} {r : List FR} (h : Tak g fin none (f :: r)) (hs : (gSuc g f.node)[f.idx]? = some s) : Tak g fin (some s) ({ f with idx := f.idx + 1 } :: r) := by
  refine ⟨fun q s' hq hs' => ?_, fun s' e => ?_, h.2.2⟩
  · have hq' : q < f.idx + 1 := hq
    rcases Nat.lt_or_eq_of_le (Nat.le_of_lt_succ hq') with hq'' | rfl
    · rcases h.1 q s' hq'' hs' with h1 | ⟨_, h2⟩
      · exact .inl h1
      · cases h2
    · have e : (gSuc g f.node)[f.idx]? = some s' := hs'
      rw [hs] at e
      exact .inr ⟨rfl, e⟩
  · cases e
    exact List.mem_of_getElem? hs
theorem Tak.mono {g : G} {fin fin' : List Int} (hf : ∀ x ∈ fin, x ∈ fin') : ∀ {c : Option Int} {fr : List FR}, Tak g fin c fr → Tak g fin' c fr
  | _, [], _ => trivial
  | _, f :: r, h => ⟨fun q s hq hs => (h.1 q s hq hs).imp (hf s) id, h.2.1, Tak.mono hf h.2.2⟩
theorem Tak.done {g : G} {fin : List Int} {k : Int} (hk : k ∈ fin) : ∀ {fr : List FR}, Tak g fin (some k) fr → Tak g fin none fr
  | [], _ => trivial
  | f :: r, h => ⟨fun q s hq hs => .inl ((h.1 q s hq hs).elim id fun e => (by cases e.2; exact hk)), fun s e => (by cases e), h.2.2⟩
theorem Tak.pop {g : G} {fin : List Int} {f : FR} {r : List FR} (h : Tak g fin none (f :: r)) : Tak g (fin ++ [f.node]) none r :=
  Tak.done (List.mem_append_right _ (List.mem_singleton.mpr rfl)) (Tak.mono (fun x hx => List.mem_append_left _ hx) h.2.2)
theorem Tak.all {g : G} {fin : List Int} {f : FR} {r : List FR} (h : Tak g fin none (f :: r)) (hi : (gSuc g f.node)[f.idx]? = none) : ∀ s ∈ gSuc g f.node, s ∈ fin := fun s hs => by
  obtain ⟨q, hq⟩ := List.getElem?_of_mem hs
  have h1 := (List.getElem?_eq_some_iff.mp hq).1
  have h2 := List.getElem?_eq_none_iff.mp hi
  rcases h.1 q s (by omega) hq with h3 | ⟨_, h3⟩
  · exact h3
  · cases h3
theorem chain_snoc {g : G} {x y : Int} (hy : y ∈ gSuc g x) : ∀ {l : List Int}, Chain' g (l ++ [x]) → Chain' g (l ++ [x] ++ [y])
  | [], _ => ⟨hy, trivial⟩
  | [a], h => ⟨h.1, hy, trivial⟩
  | a :: b :: r, h => ⟨h.1, chain_snoc hy (l := b :: r) h.2⟩
theorem Tak.chain {g : G} {fin : List Int} {f : FR} {b : List FR} : ∀ {a : List FR} {c : Int}, Tak g fin (some c) (a ++ f :: b) → Chain' g (f.node :: (a.map (·.node)).reverse ++ [c])
  | [], c, h => ⟨h.2.1 c rfl, trivial⟩
  | f0 :: a, c, h => by
    have h1 := Tak.chain (a := a) h.2.2
    rw [List.map_cons, List.reverse_cons]
    exact chain_snoc (h.2.1 c rfl) (l := f.node :: (a.map (·.node)).reverse) h1
theorem Tak.ring {g : G} {fin : List Int} {a b : List FR} {f : FR} (h : Tak g fin (some f.node) (a ++ f :: b)) : Ring g (f.node :: (a.map (·.node)).reverse ++ [f.node]) := ⟨f.node, _, rfl, Tak.chain h⟩
end Mine

namespace Mine
open PySem PySem.W PyProof.Rows
open Sem (wp)

noncomputable def left (g : G) (seen : List Int) : Nat := ((g.filter fun p => decide (p.1 ∉ seen)).map fun p => p.2.2.length + 1).sum
noncomputable def Msr (g : G) (seen : List Int) (fr : List FR) : Nat := (fr.map fun f => (gSuc g f.node).length - f.idx).sum + left g seen
theorem left_mono {seen : List Int} {k : Int} : ∀ {g : G}, left g (k :: seen) ≤ left g seen
  | [] => Nat.le_refl _
  | p :: r => by
    have ih := left_mono (seen := seen) (k := k) (g := r)
    unfold left at ih ⊢
    rw [List.filter_cons, List.filter_cons]
    by_cases h : p.1 ∈ seen
    · rw [if_neg (by simp [h]), if_neg (by simp [h])]
      exact ih
    · rw [if_pos (c := decide (p.1 ∉ seen) = true) (by simp [h])]
      split
      · rw [List.map_cons, List.map_cons, List.sum_cons, List.sum_cons]; omega
      · rw [List.map_cons, List.sum_cons]; omega
theorem left_push {seen : List Int} {k : Int} {x : Int × List Int} (hk : k ∉ seen) : ∀ {g : G}, (k, x) ∈ g → left g (k :: seen) + x.2.length + 1 ≤ left g seen
  | [], h => by cases h
  | p :: r, h => by
    unfold left
    rw [List.filter_cons, List.filter_cons]
    by_cases hp : p.1 = k
    · rw [if_neg (by simp [hp]), if_pos (by rw [hp]; simp [hk]), List.map_cons, List.sum_cons]
      have hm := left_mono (seen := seen) (k := k) (g := r)
      unfold left at hm
      rcases List.mem_cons.mp h with e | h
      · rw [← e]; dsimp only; omega
      · have ih := left_push hk h
        unfold left at ih
        omega
    · rcases List.mem_cons.mp h with e | h
      · rw [← e] at hp; exact absurd rfl hp
      · have ih := left_push hk h
        unfold left at ih
        by_cases hs : p.1 ∈ seen
        · rw [if_neg (by simp [hs]), if_neg (by simp [hs])]
          exact ih
        · rw [if_pos (by simp [hs, hp]), if_pos (by simp [hs]), List.map_cons, List.map_cons, List.sum_cons, List.sum_cons]
          omega
theorem gSuc_mem {g : G} {k : Int} (hn : (g.map (·.1)).Nodup) (hk : k ∈ g.map (·.1)) : ∃ v, (k, v, gSuc g k) ∈ g := by
  obtain ⟨⟨k', v, su⟩, hp, rfl⟩ := List.mem_map.mp hk
  refine ⟨v, ?_⟩
  unfold gSuc
  rw [gAt_mem hn hp]
  exact hp
theorem Msr.push {g : G} {seen : List Int} {fr : List FR} {k : Int} {w I la : Addr} (hn : (g.map (·.1)).Nodup) (hk : k ∈ g.map (·.1)) (hs : k ∉ seen) : Msr g (k :: seen) (⟨k, w, I, la, 0⟩ :: fr) + 1 ≤ Msr g seen fr := by
  obtain ⟨v, hv⟩ := gSuc_mem hn hk
  have := left_push hs hv
  unfold Msr
  rw [List.map_cons, List.sum_cons]
  dsimp only at this ⊢
  omega
theorem Msr.take {g : G} {seen : List Int} {fr : List FR} {f : FR} (hi : f.idx < (gSuc g f.node).length) : Msr g seen ({ f with idx := f.idx + 1 } :: fr) + 1 ≤ Msr g seen (f :: fr) := by
  unfold Msr
  rw [List.map_cons, List.map_cons, List.sum_cons, List.sum_cons]
  dsimp only
  omega
theorem Msr.pop {g : G} {seen : List Int} {fr : List FR} {f : FR} : Msr g seen fr ≤ Msr g seen (f :: fr) := by
  unfold Msr
  rw [List.map_cons, List.sum_cons]
  omega
end Mine

namespace Mine
open PySem PySem.W PyProof.Rows
open Sem (wp)

noncomputable def place : List FR → List (Int × Value)
  | [] => []
  | f :: r => place r ++ [(f.node, vI (r.length : Nat))]
theorem place_keys : ∀ {fr : List FR}, (place fr).map (·.1) = (fr.map (·.node)).reverse
  | [] => rfl
  | f :: r => by
    show (place r ++ [(f.node, vI (r.length : Nat))]).map (fun p : Int × Value => p.1) = _
    rw [List.map_append, place_keys (fr := r)]
    simp
theorem place_mem {k : Int} {fr : List FR} : k ∈ (place fr).map (·.1) ↔ k ∈ fr.map (·.node) := by rw [place_keys, List.mem_reverse]
theorem place_len {fr : List FR} : (place fr).length = fr.length := by
  have := congrArg List.length (place_keys (fr := fr))
  simpa using this
theorem place_at {f : FR} {b : List FR} : ∀ {a : List FR}, (f.node, vI (b.length : Nat)) ∈ place (a ++ f :: b)
  | [] => List.mem_append_right _ (List.mem_singleton.mpr rfl)
  | g :: a => List.mem_append_left _ (place_at (a := a))
theorem place_push {f : FR} {r : List FR} (h : f.node ∉ r.map (·.node)) : stored (place r) f.node (vI (r.length : Nat)) = place (f :: r) := stored_not (fun hm => h (place_mem.mp hm))
theorem place_pop {f : FR} {r : List FR} (h : f.node ∉ r.map (·.node)) : (place (f :: r)).filter (fun p => decide (p.1 ≠ f.node)) = place r := by
  show (place r ++ [(f.node, vI (r.length : Nat))]).filter (fun p => decide (p.1 ≠ f.node)) = _
  rw [List.filter_append]
  have h1 : (place r).filter (fun p => decide (p.1 ≠ f.node)) = place r := by
    rw [List.filter_eq_self]
    intro p hp
    exact decide_eq_true fun e => h (place_mem.mp (by rw [← e]; exact List.mem_map_of_mem hp))
  rw [h1]
  simp
end Mine

namespace Mine
open PySem PySem.W PyProof.Rows
open Sem (wp)

structure DFS (g : G) (seen fin : List Int) (fr : List FR) (cur : Option Int) : Prop where
  mem : ∀ k, k ∈ seen ↔ k ∈ fin ∨ k ∈ fr.map (·.node)
  dis : ∀ k ∈ fin, k ∉ fr.map (·.node)
  finN : fin.Nodup
  stN : (fr.map (·.node)).Nodup
  inG : ∀ k ∈ seen, k ∈ g.map (·.1)
  succ : ∀ i k, fin[i]? = some k → ∀ s ∈ gSuc g k, s ∈ fin.take i
  tak : Tak g fin cur fr
theorem DFS.init {g : G} : DFS g [] [] [] none := ⟨fun k => (by simp), fun k h => (by cases h), List.nodup_nil, List.nodup_nil, fun k h => (by cases h), fun i k h => (by simp at h), trivial⟩
theorem DFS.push {g : G} {seen fin : List Int} {fr : List FR} {k : Int} {w I la : Addr} (h : DFS g seen fin fr (some k)) (hk : k ∉ seen) (hg : k ∈ g.map (·.1)) : DFS g (k :: seen) fin (⟨k, w, I, la, 0⟩ :: fr) none := by
  have h1 : k ∉ fr.map (·.node) := fun hm => hk ((h.mem k).mpr (.inr hm))
  have h2 : k ∉ fin := fun hm => hk ((h.mem k).mpr (.inl hm))
  refine ⟨fun j => ?_, fun j hj hm => ?_, h.finN, List.nodup_cons.mpr ⟨h1, h.stN⟩, fun j hj => ?_, h.succ, h.tak.push⟩
  · rw [List.mem_cons, h.mem j, List.map_cons, List.mem_cons]
    constructor
    · rintro (e | e | e)
      · exact .inr (.inl e)
      · exact .inl e
      · exact .inr (.inr e)
    · rintro (e | e | e)
      · exact .inr (.inl e)
      · exact .inl e
      · exact .inr (.inr e)
  · rcases List.mem_cons.mp hm with e | hm
    · have e : j = k := e
      exact h2 (by rw [← e]; exact hj)
    · exact h.dis j hj hm
  · rcases List.mem_cons.mp hj with rfl | hj
    · exact hg
    · exact h.inG j hj
theorem DFS.take {g : G} {seen fin : List Int} {s : Int} {f : FR} {r : List FR} (h : DFS g seen fin (f :: r) none) (hs : (gSuc g f.node)[f.idx]? = some s) : DFS g seen fin ({ f with idx := f.idx + 1 } :: r) (some s) :=
  ⟨h.mem, h.dis, h.finN, h.stN, h.inG, h.succ, h.tak.take hs⟩
theorem DFS.done {g : G} {seen fin : List Int} {fr : List FR} {k : Int} (h : DFS g seen fin fr (some k)) (hk : k ∈ fin) : DFS g seen fin fr none := ⟨h.mem, h.dis, h.finN, h.stN, h.inG, h.succ, h.tak.done hk⟩
theorem DFS.pop {g : G} {seen fin : List Int} {f : FR} {r : List FR} (h : DFS g seen fin (f :: r) none) (hi : (gSuc g f.node)[f.idx]? = none) : DFS g seen (fin ++ [f.node]) r none := by
  have hst := List.nodup_cons.mp h.stN
  have hf : f.node ∉ fin := fun hm => h.dis _ hm List.mem_cons_self
  refine ⟨fun k => ?_, fun k hk hm => ?_, ?_, hst.2, h.inG, fun i k hik s hs => ?_, h.tak.pop⟩
  · rw [h.mem k, List.map_cons, List.mem_cons, List.mem_append, List.mem_singleton, or_assoc]
  · rcases List.mem_append.mp hk with hk | hk
    · exact h.dis k hk (List.mem_cons_of_mem _ hm)
    · rw [List.mem_singleton.mp hk] at hm; exact hst.1 hm
  · rw [List.nodup_append]
    exact ⟨h.finN, by simp, fun a ha b hb e => hf (by rw [← List.mem_singleton.mp hb, ← e]; exact ha)⟩
  · rcases Nat.lt_or_ge i fin.length with hlt | hge
    · rw [List.getElem?_append_left hlt] at hik
      rw [List.take_append_of_le_length (Nat.le_of_lt hlt)]
      exact h.succ i k hik s hs
    · rw [List.getElem?_append_right hge] at hik
      have hi0 : i = fin.length := by
        have := (List.getElem?_eq_some_iff.mp hik).1
        simp at this; exact Nat.le_antisymm (Nat.le_of_sub_eq_zero this) hge
      subst hi0
      simp at hik
      subst hik
      rw [List.take_append_of_le_length (Nat.le_refl _), List.take_length]
      exact h.tak.all hi s hs
theorem DFS.fin {g : G} {seen fin : List Int} (h : DFS g seen fin [] none) (ha : ∀ k ∈ g.map (·.1), k ∈ seen) : Fin' g fin :=
  ⟨fun k hk => ((h.mem k).mp (ha k hk)).elim id fun z => (by cases z), fun k hk => h.inG k ((h.mem k).mpr (.inl hk)), h.finN, h.succ⟩
end Mine

namespace Mine
open PySem PySem.W PyProof.Rows
open Sem (wp)

structure DA where
  sk : Addr
  ik : Addr
  se : Addr
  d : Addr
noncomputable def FC (fr : List FR) : AH := fr.flatMap FR.cells
noncomputable def DC (a : DA) (ep : Nat) (seen : List Int) (fr : List FR) (R : AH) : AH :=
  (a.sk, .list (iv (fr.map (·.node)).reverse)) :: (a.ik, .list (fr.map fun f => Value.ref f.w).reverse) :: (a.se, .set seen) :: (a.d, .dict (place fr) ep) :: (FC fr ++ R)
theorem dc_sk {a : DA} {ep : Nat} {seen : List Int} {fr : List FR} {R : AH} : (a.sk, AO.list (iv (fr.map (·.node)).reverse)) ∈ DC a ep seen fr R := List.mem_cons_self
theorem dc_ik {a : DA} {ep : Nat} {seen : List Int} {fr : List FR} {R : AH} : (a.ik, AO.list (fr.map fun f => Value.ref f.w).reverse) ∈ DC a ep seen fr R := List.mem_cons_of_mem _ List.mem_cons_self
theorem dc_se {a : DA} {ep : Nat} {seen : List Int} {fr : List FR} {R : AH} : (a.se, AO.set seen) ∈ DC a ep seen fr R := List.mem_cons_of_mem _ (List.mem_cons_of_mem _ List.mem_cons_self)
theorem dc_d {a : DA} {ep : Nat} {seen : List Int} {fr : List FR} {R : AH} : (a.d, AO.dict (place fr) ep) ∈ DC a ep seen fr R := List.mem_cons_of_mem _ (List.mem_cons_of_mem _ (List.mem_cons_of_mem _ List.mem_cons_self))
theorem dc_R {a : DA} {ep : Nat} {seen : List Int} {fr : List FR} {R : AH} {p : Addr × AO} (h : p ∈ R) : p ∈ DC a ep seen fr R := List.mem_cons_of_mem _ (List.mem_cons_of_mem _ (List.mem_cons_of_mem _ (List.mem_cons_of_mem _ (List.mem_append_right _ h))))
theorem dc_f {a : DA} {ep : Nat} {seen : List Int} {fr : List FR} {R : AH} {p : Addr × AO} (h : p ∈ FC fr) : p ∈ DC a ep seen fr R := List.mem_cons_of_mem _ (List.mem_cons_of_mem _ (List.mem_cons_of_mem _ (List.mem_cons_of_mem _ (List.mem_append_left _ h))))
noncomputable def un (g : G) (seen : List Int) : Nat := (g.filter fun p => decide (p.1 ∉ seen)).length
theorem un_mono {seen : List Int} {k : Int} : ∀ {g : G}, un g (k :: seen) ≤ un g seen
  | [] => Nat.le_refl _
  | p :: r => by
    have ih := un_mono (seen := seen) (k := k) (g := r)
    unfold un at ih ⊢
    rw [List.filter_cons, List.filter_cons]
    by_cases h : p.1 ∈ seen
    · rw [if_neg (by simp [h]), if_neg (by simp [h])]
      exact ih
    · rw [if_pos (c := decide (p.1 ∉ seen) = true) (by simp [h])]
      split
      · rw [List.length_cons, List.length_cons]; omega
      · rw [List.length_cons]; omega
theorem un_push {seen : List Int} {k : Int} (hk : k ∉ seen) : ∀ {g : G}, k ∈ g.map (·.1) → un g (k :: seen) + 1 ≤ un g seen
  | [], h => by cases h
  | p :: r, h => by
    unfold un
    rw [List.filter_cons, List.filter_cons]
    by_cases hp : p.1 = k
    · rw [if_neg (by simp [hp]), if_pos (by rw [hp]; simp [hk]), List.length_cons]
      have hm := un_mono (seen := seen) (k := k) (g := r)
      unfold un at hm
      omega
    · rw [List.map_cons, List.mem_cons] at h
      have ih := un_push hk (h.resolve_left fun e => hp e.symm)
      unfold un at ih
      by_cases hs : p.1 ∈ seen
      · rw [if_neg (by simp [hs]), if_neg (by simp [hs])]
        exact ih
      · rw [if_pos (by simp [hs, hp]), if_pos (by simp [hs]), List.length_cons, List.length_cons]
        omega
theorem un_nil {g : G} : un g [] = g.length := by unfold un; simp
end Mine

namespace Mine
open PySem PySem.W PyProof.Rows
open Sem (wp)

section
variable {C : Cfg} {A : Around} {fx : Fx} {m m' : Lo} {H H' : AH} {X : Value → Lo → AH → Prop}
theorem pick_from {xs : List Value} (a : Nat) : pickL xs (some (a : Int)) none none = xs.drop a := by
  unfold pickL; rw [slicePick_from']
theorem ev_neg {i : Int} {k : Nat} {pos pos' : Pos} {Q : Value → Lo → AH → Prop} (h : Q (vI (-i)) m H) : EV C A fx (.UnaryOp .USub (.Constant (.int i) k pos) pos') m H Q X := fun s S =>
  UnaryOp_ (wpAny_Constant_int (neg_int ⟨m, H, (S.toks _).1, (S.toks _).2, h⟩))

theorem boot_stop : bootBuiltins "StopIteration" = some (.type "StopIteration") := by decide +kernel
theorem ex_del1 {o i : PySem.Expr} {p pos : Pos} {Q : Flow → Lo → AH → Prop} (h : EV C A fx o m H (fun x m₁ H₁ => EV C A fx i m₁ H₁ (fun y m₂ H₂ => DI C A fx x y m₂ H₂ (Q .next) X) X) X) : EX C A fx (.Delete [.Subscript o i p] pos) m H Q X := by
  show AW C A fx (exec _ _) m H _ X
  rw [arm_exec_Delete, arm_deleteEach_cons, arm_deleteEach_nil]
  refine aw_bind (aw_standAt (aw_bind (aw_bind ?_)))
  have e : delete (.Subscript o i p) fx.env = (do
      let ov ← eval o fx.env
      let iv ← holding [ov] (eval i fx.env)
      standAt p
      holding [ov, iv] (delItem ov iv)
      release [ov, iv] []) := rfl
  rw [e]
  exact aw_bind (aw_mono h (fun x _ _ h₁ => aw_bind (aw_holding (aw_mono h₁ (fun y _ _ h₂ => aw_bind (aw_standAt (aw_bind (aw_holding (aw_mono (h₂ x y rfl rfl) (fun _ _ _ h₃ => aw_release (aw_pure (aw_pure h₃))) fun _ _ _ x => x))))) fun _ _ _ x => x))) fun _ _ _ x => x)

theorem put_fresh {x : PySem.Str} {v : Value} (h : (m.any fun p => p.1 == x) = false) : m.put x v = (x, v) :: m := by
  unfold Lo.put
  congr 1
  rw [List.filter_eq_self]
  intro p hp
  have := List.any_eq_false.mp h p hp
  simpa using this
theorem asg_nmF {sc : Scope} {os : List (PySem.Str × NameKind)} {x : PySem.Str} {pos : Pos} {v : Value} {Q : Lo → AH → Prop} (Z : Sc fx sc os) (hk : stor (os.lookup x) = true) (hx : (m.any fun p => p.1 == x) = false) (h : Q ((x, v) :: m) H) : ASG C A fx (.Name x pos) v m H Q X :=
  asg_nm Z hk (by rw [put_fresh hx]; exact h)

/-! ### a statement in the midst of a row -/
noncomputable def midQ (P : Lo → AH → Prop) (Q : Flow → Lo → AH → Prop) : Flow → Lo → AH → Prop := fun f m H => match f with
  | .next => P m H
  | f => Q f m H
theorem mid_next {P : Lo → AH → Prop} {Q : Flow → Lo → AH → Prop} (h : P m H) : midQ P Q .next m H := h
theorem mid_ret {P : Lo → AH → Prop} {Q : Flow → Lo → AH → Prop} {v : Value} (h : Q (.ret v) m H) : midQ P Q (.ret v) m H := h
theorem exs_mid {st : Stmt} {r : List Stmt} {Q : Flow → Lo → AH → Prop} (P : Lo → AH → Prop) (h : EX C A fx st m H (midQ P Q) X) (hr : ∀ m H, P m H → EXS C A fx r m H Q X) : EXS C A fx (st :: r) m H Q X :=
  exs_cons (aw_mono h (fun f m H q => by revert q; generalize erF f = f'; intro q; cases f' <;> first | exact hr m H q | exact q) fun _ _ _ x => x)
theorem try_next {o : List Stmt} {Q : Flow → Lo → AH → Prop} (h : EXS C A fx o m H Q X) : tryQ C A fx o Q X .next m H := h
theorem try_brk {o : List Stmt} {Q : Flow → Lo → AH → Prop} (h : Q .brk m H) : tryQ C A fx o Q X .brk m H := h
end

/-! ### steps of the search -/
theorem put_mid {X Y : AH} {a : Addr} {o o' : AO} (hn : (AH.keys (X ++ (a, o') :: Y)).Nodup) : AH.put (X ++ (a, o') :: Y) a o = X ++ (a, o) :: Y := by
  rw [keys_append, keys_cons, List.nodup_append] at hn
  obtain ⟨_, h2, h3⟩ := hn
  have h4 : a ∉ X.keys := fun h => h3 a h a List.mem_cons_self rfl
  rw [put_append, put_none h4, put_head (List.nodup_cons.mp h2).1]
theorem dc_take {a : DA} {ep : Nat} {seen : List Int} {f : FR} {r : List FR} {R : AH} (hn : (AH.keys (DC a ep seen (f :: r) R)).Nodup) :
    AH.put (DC a ep seen (f :: r) R) f.I (.flds (.type "list_iterator") [.ref f.la, vI (f.idx + 1 : Nat)]) = DC a ep seen ({ f with idx := f.idx + 1 } :: r) R :=
  put_mid (X := [_, _, _, _, _]) (Y := FC r ++ R) hn
noncomputable def PC (a : DA) (ep : Nat) (seen : List Int) (st : List Value) (it : List Value) (pl : List (Int × Value)) (R : AH) : AH :=
  (a.sk, .list st) :: (a.ik, .list it) :: (a.se, .set seen) :: (a.d, .dict pl ep) :: R
theorem dc_end {a : DA} {ep : Nat} {seen : List Int} {f : FR} {r : List FR} {R : AH} {o : AO} (hn : (AH.keys (DC a ep seen (f :: r) R)).Nodup) :
    Wk (AH.put (DC a ep seen (f :: r) R) f.I o) (PC a ep seen (iv (r.map (·.node)).reverse ++ [vI f.node]) ((r.map fun f => Value.ref f.w).reverse ++ [.ref f.w]) (place (f :: r)) (FC r ++ R)) := by
  have e : AH.put (DC a ep seen (f :: r) R) f.I o = _ := put_mid (X := [_, _, _, _, _]) (Y := FC r ++ R) hn
  rw [e]
  have e1 : iv (((f :: r).map (·.node)).reverse) = iv (r.map (·.node)).reverse ++ [vI f.node] := by
    rw [List.map_cons, List.reverse_cons, iv_append]; rfl
  have e2 : ((f :: r).map fun f => Value.ref f.w).reverse = (r.map fun f => Value.ref f.w).reverse ++ [.ref f.w] := by
    rw [List.map_cons, List.reverse_cons]
  rw [← e1, ← e2]
  exact Wk.keep (Wk.keep (Wk.keep (Wk.keep (Wk.cons (Wk.cons Wk.refl)))))
theorem pc_sk {a : DA} {ep : Nat} {seen : List Int} {st it st' : List Value} {pl : List (Int × Value)} {R : AH} (hn : (AH.keys (PC a ep seen st it pl R)).Nodup) : AH.put (PC a ep seen st it pl R) a.sk (.list st') = PC a ep seen st' it pl R :=
  put_mid (X := []) (Y := _ :: _ :: _ :: R) hn
theorem pc_ik {a : DA} {ep : Nat} {seen : List Int} {st it it' : List Value} {pl : List (Int × Value)} {R : AH} (hn : (AH.keys (PC a ep seen st it pl R)).Nodup) : AH.put (PC a ep seen st it pl R) a.ik (.list it') = PC a ep seen st it' pl R :=
  put_mid (X := [_]) (Y := _ :: _ :: R) hn
theorem pc_se {a : DA} {ep : Nat} {seen seen' : List Int} {st it : List Value} {pl : List (Int × Value)} {R : AH} (hn : (AH.keys (PC a ep seen st it pl R)).Nodup) : AH.put (PC a ep seen st it pl R) a.se (.set seen') = PC a ep seen' st it pl R :=
  put_mid (X := [_, _]) (Y := _ :: R) hn
theorem pc_d {a : DA} {ep ep' : Nat} {seen : List Int} {st it : List Value} {pl pl' : List (Int × Value)} {R : AH} (hn : (AH.keys (PC a ep seen st it pl R)).Nodup) : AH.put (PC a ep seen st it pl R) a.d (.dict pl' ep') = PC a ep' seen st it pl' R :=
  put_mid (X := [_, _, _]) (Y := R) hn
theorem pc_msk {a : DA} {ep : Nat} {seen : List Int} {st it : List Value} {pl : List (Int × Value)} {R : AH} : (a.sk, AO.list st) ∈ PC a ep seen st it pl R := List.mem_cons_self
theorem pc_mik {a : DA} {ep : Nat} {seen : List Int} {st it : List Value} {pl : List (Int × Value)} {R : AH} : (a.ik, AO.list it) ∈ PC a ep seen st it pl R := List.mem_cons_of_mem _ List.mem_cons_self
theorem pc_mse {a : DA} {ep : Nat} {seen : List Int} {st it : List Value} {pl : List (Int × Value)} {R : AH} : (a.se, AO.set seen) ∈ PC a ep seen st it pl R := List.mem_cons_of_mem _ (List.mem_cons_of_mem _ List.mem_cons_self)
theorem pc_md {a : DA} {ep : Nat} {seen : List Int} {st it : List Value} {pl : List (Int × Value)} {R : AH} : (a.d, AO.dict pl ep) ∈ PC a ep seen st it pl R := List.mem_cons_of_mem _ (List.mem_cons_of_mem _ (List.mem_cons_of_mem _ List.mem_cons_self))
theorem pc_R {a : DA} {ep : Nat} {seen : List Int} {st it : List Value} {pl : List (Int × Value)} {R : AH} {p : Addr × AO} (h : p ∈ R) : p ∈ PC a ep seen st it pl R := List.mem_cons_of_mem _ (List.mem_cons_of_mem _ (List.mem_cons_of_mem _ (List.mem_cons_of_mem _ h)))
theorem dc_pc {a : DA} {ep : Nat} {seen : List Int} {fr : List FR} {R : AH} : DC a ep seen fr R = PC a ep seen (iv (fr.map (·.node)).reverse) ((fr.map fun f => Value.ref f.w).reverse) (place fr) (FC fr ++ R) := rfl

structure SR (g : G) (i : Nat) (seen fin : List Int) (fr : List FR) (cur : Option Int) : Prop where
  dfs : DFS g seen fin fr cur
  len : fr.length + fin.length = seen.length
  un : seen.length + un g seen ≤ g.length
  pre : ∀ p ∈ (g.map (·.1)).take i, p ∈ seen
section
variable {g : G} {i : Nat} {seen fin : List Int} {fr r : List FR} {f : FR} {k s : Int} {w I la : Addr} {cur : Option Int}
theorem SR.small (h : SR g i seen fin fr cur) : fr.length ≤ g.length ∧ seen.length ≤ g.length := by have := h.len; have := h.un; omega
theorem SR.push (h : SR g i seen fin fr (some k)) (hk : k ∉ seen) (hg : k ∈ g.map (·.1)) : SR g i (k :: seen) fin (⟨k, w, I, la, 0⟩ :: fr) none :=
  ⟨h.dfs.push hk hg, by have := h.len; simp only [List.length_cons]; omega, by have := un_push hk hg; have := h.un; rw [List.length_cons]; omega, fun p hp => List.mem_cons_of_mem _ (h.pre p hp)⟩
theorem SR.take (h : SR g i seen fin (f :: r) none) (hs : (gSuc g f.node)[f.idx]? = some s) : SR g i seen fin ({ f with idx := f.idx + 1 } :: r) (some s) := ⟨h.dfs.take hs, h.len, h.un, h.pre⟩
theorem SR.pop (h : SR g i seen fin (f :: r) none) (hi : (gSuc g f.node)[f.idx]? = none) : SR g i seen (fin ++ [f.node]) r none :=
  ⟨h.dfs.pop hi, by have := h.len; rw [List.length_cons] at this; rw [List.length_append, List.length_singleton]; omega, h.un, h.pre⟩
theorem SR.known (h : SR g i seen fin fr (some k)) (hk : k ∈ seen) (hf : k ∉ fr.map (·.node)) : SR g i seen fin fr none := ⟨h.dfs.done (((h.dfs.mem k).mp hk).resolve_right hf), h.len, h.un, h.pre⟩
theorem SR.enter (h : SR g i seen fin [] none) : SR g i seen fin [] (some k) := ⟨⟨h.dfs.mem, h.dfs.dis, h.dfs.finN, h.dfs.stN, h.dfs.inG, h.dfs.succ, trivial⟩, h.len, h.un, h.pre⟩
theorem SR.next (h : SR g i seen fin fr cur) (hk : (g.map (·.1))[i]? = some k) (hs : k ∈ seen) : SR g (i + 1) seen fin fr cur :=
  ⟨h.dfs, h.len, h.un, fun p hp => by
    rw [List.take_add_one, hk] at hp
    rcases List.mem_append.mp hp with hp | hp
    · exact h.pre p hp
    · rw [List.mem_singleton.mp hp]; exact hs⟩
end
theorem fr_split {k : Int} : ∀ {fr : List FR}, k ∈ fr.map (·.node) → ∃ a f b, fr = a ++ f :: b ∧ f.node = k
  | [], h => by cases h
  | f :: r, h => by
    by_cases e : f.node = k
    · exact ⟨[], f, r, rfl, e⟩
    · rw [List.map_cons, List.mem_cons] at h
      obtain ⟨a, f', b, rfl, e'⟩ := fr_split (h.resolve_left fun q => e q.symm)
      exact ⟨f :: a, f', b, rfl, e'⟩
theorem place_dval {a b : List FR} {f : FR} (hn : ((a ++ f :: b).map (·.node)).Nodup) : dval (place (a ++ f :: b)) f.node = some (vI (b.length : Nat)) :=
  dval_mem (by rw [place_keys]; exact (List.reverse_perm _).symm.nodup hn) place_at
theorem ring_drop {a b : List FR} {f : FR} : (((a ++ f :: b).map (·.node)).reverse).drop b.length = f.node :: (a.map (·.node)).reverse := by
  rw [List.map_append, List.map_cons, List.reverse_append, List.reverse_cons, List.append_assoc, List.drop_append_of_le_length (by simp)]
  rw [List.drop_of_length_le (by simp)]
  rfl
end Mine

namespace Mine
open PySem PySem.W PyProof.Rows
open Sem (wp)

section
variable {α : Type} {C : Cfg} {A A' : Around} {fx fx' : Fx} {m m' m₁ : Lo} {H H' H₁ : AH} {X : Value → Lo → AH → Prop} {K : Frag} {s s' s₁ : Shared}

/-! ### comprehensions of one clause -/
theorem tst_nil {Q : Bool → Lo → AH → Prop} (h : Q true m H) : TST C A fx [] m H Q X := h
theorem tst_cons {c : PySem.Expr} {r : List PySem.Expr} {Q : Bool → Lo → AH → Prop} (h : IT C A fx c m H (fun b m₁ H₁ => if b = true then TST C A fx r m₁ H₁ Q X else Q false m₁ H₁) X) : TST C A fx (c :: r) m H Q X := h
theorem gok1 {g : Comprehension} (h : GOK g) : ∀ g' ∈ [g], GOK g' := fun g' h' => by rw [List.mem_singleton.mp h']; exact h
noncomputable abbrev WkF (G : AH → AO → Addr → Prop) : AH → AO → Addr → Prop := fun H₂ acc a => ∃ H', Wk H₂ H' ∧ G H' acc a
theorem ev_listcompW {elt : PySem.Expr} {g : Comprehension} {gs : List Comprehension} {scope outer : Scope} {pos : Pos} {Q : Value → Lo → AH → Prop} (hsc : fx.env.scope = outer)
    (h : EV C A fx g.iter m H (fun x m₁ H₁ => TURNS C A fx (.ListComp elt (g :: gs) scope pos) scope outer g gs x (.list []) m₁ H₁ (WkF fun H₂ acc a => Q (.ref a) m₁ ((a, acc) :: H₂))) X)
    (hok : ∀ g' ∈ g :: gs, GOK g') (hb : scOkB scope outer = true) : EV C A fx (.ListComp elt (g :: gs) scope pos) m H Q X := by
  refine aw_wkp ?_
  refine ev_listcomp (Q := fun v m' H' => ∃ m'' H'', WkL m' m'' ∧ Wk H' H'' ∧ Q v m'' H'') hsc (aw_mono h (fun v m₁ H₁ h₁ => ?_) fun v m' H' x => ⟨m', H', WkL.refl, Wk.refl, x⟩) hok hb
  obtain ⟨vals, P, h1, J, h2, h3, h4, h5⟩ := h₁
  refine ⟨vals, P, h1, J, h2, h3, h4, fun m₂ H₂ acc hj a ha => ?_⟩
  obtain ⟨H', hW, q⟩ := h5 m₂ H₂ acc hj a ha
  exact ⟨_, _, WkL.refl, Wk.keep hW, q⟩
theorem ev_dictcompW {k v : PySem.Expr} {g : Comprehension} {gs : List Comprehension} {scope outer : Scope} {pos : Pos} {Q : Value → Lo → AH → Prop} (hsc : fx.env.scope = outer)
    (h : EV C A fx g.iter m H (fun x m₁ H₁ => TURNS C A fx (.DictComp k v (g :: gs) scope pos) scope outer g gs x (.dict [] 0) m₁ H₁ (WkF fun H₂ acc a => Q (.ref a) m₁ ((a, acc) :: H₂))) X)
    (hok : ∀ g' ∈ g :: gs, GOK g') (hb : scOkB scope outer = true) : EV C A fx (.DictComp k v (g :: gs) scope pos) m H Q X := by
  refine aw_wkp ?_
  refine ev_dictcomp (Q := fun v m' H' => ∃ m'' H'', WkL m' m'' ∧ Wk H' H'' ∧ Q v m'' H'') hsc (aw_mono h (fun v m₁ H₁ h₁ => ?_) fun v m' H' x => ⟨m', H', WkL.refl, Wk.refl, x⟩) hok hb
  obtain ⟨vals, P, h1, J, h2, h3, h4, h5⟩ := h₁
  refine ⟨vals, P, h1, J, h2, h3, h4, fun m₂ H₂ acc hj a ha => ?_⟩
  obtain ⟨H', hW, q⟩ := h5 m₂ H₂ acc hj a ha
  exact ⟨_, _, WkL.refl, Wk.keep hW, q⟩
theorem bk_of {sc : Scope} (hsc : fx.env.scope = sc) (hk : sc.kind = .function) : fx.env.blockKind = fx.env.scope.kind := by
  unfold Env.blockKind; rw [hsc, hk]; rfl
theorem ex_listcompW {x : PySem.Str} {px spos : Pos} {elt : PySem.Expr} {g : Comprehension} {gs : List Comprehension} {scope outer : Scope} {os : List (PySem.Str × NameKind)} {pos : Pos} {Q : Flow → Lo → AH → Prop} (Z : Sc fx outer os) (hx : stor (os.lookup x) = true)
    (hs : (outer.kind == .function && outer.names.lookup x == some .local && px.line == (PySem.Expr.ListComp elt (g :: gs) scope pos).pos.line && !(scope.names.any fun (n, k) => n == x && (k == .local || k == .cell))) = true) (hl : spos.line = spos.line)
    (h : EV C A fx g.iter m H (fun x' m₁ H₁ => TURNS C A fx (.ListComp elt (g :: gs) scope pos) scope outer g gs x' (.list []) m₁ H₁ (WkF fun H₂ acc a => Q .next (m₁.put x (.ref a)) ((a, acc) :: H₂))) X)
    (hok : ∀ g' ∈ g :: gs, GOK g') (hb : scOkB scope outer = true) : EX C A fx (.Assign [.Name x px] (.ListComp elt (g :: gs) scope pos) spos) m H Q X := by
  refine aw_wkp ?_
  refine ex_listcomp (Q := fun f m' H' => ∃ m'' H'', WkL m' m'' ∧ Wk H' H'' ∧ Q f m'' H'') Z.scope (Z.own x hx) (swaps_eq (.inl ⟨_, _, _, rfl⟩) Z.scope hs (bk_of Z.scope (ScOk.of hb).okind)) (aw_mono h (fun v m₁ H₁ h₁ => ?_) fun v m' H' x => ⟨m', H', WkL.refl, Wk.refl, x⟩) hok hb
  obtain ⟨vals, P, h1, J, h2, h3, h4, h5⟩ := h₁
  refine ⟨vals, P, h1, J, h2, h3, h4, fun m₂ H₂ acc hj a ha => ?_⟩
  obtain ⟨H', hW, q⟩ := h5 m₂ H₂ acc hj a ha
  exact ⟨_, _, WkL.refl, Wk.keep hW, q⟩
theorem ex_dictcompW {x : PySem.Str} {px spos : Pos} {k v : PySem.Expr} {g : Comprehension} {gs : List Comprehension} {scope outer : Scope} {os : List (PySem.Str × NameKind)} {pos : Pos} {Q : Flow → Lo → AH → Prop} (Z : Sc fx outer os) (hx : stor (os.lookup x) = true)
    (hs : (outer.kind == .function && outer.names.lookup x == some .local && px.line == (PySem.Expr.DictComp k v (g :: gs) scope pos).pos.line && !(scope.names.any fun (n, k) => n == x && (k == .local || k == .cell))) = true) (hl : spos.line = spos.line)
    (h : EV C A fx g.iter m H (fun x' m₁ H₁ => TURNS C A fx (.DictComp k v (g :: gs) scope pos) scope outer g gs x' (.dict [] 0) m₁ H₁ (WkF fun H₂ acc a => Q .next (m₁.put x (.ref a)) ((a, acc) :: H₂))) X)
    (hok : ∀ g' ∈ g :: gs, GOK g') (hb : scOkB scope outer = true) : EX C A fx (.Assign [.Name x px] (.DictComp k v (g :: gs) scope pos) spos) m H Q X := by
  refine aw_wkp ?_
  refine ex_dictcomp (Q := fun f m' H' => ∃ m'' H'', WkL m' m'' ∧ Wk H' H'' ∧ Q f m'' H'') Z.scope (Z.own x hx) (swaps_eq (.inr ⟨_, _, _, _, rfl⟩) Z.scope hs (bk_of Z.scope (ScOk.of hb).okind)) (aw_mono h (fun v m₁ H₁ h₁ => ?_) fun v m' H' x => ⟨m', H', WkL.refl, Wk.refl, x⟩) hok hb
  obtain ⟨vals, P, h1, J, h2, h3, h4, h5⟩ := h₁
  refine ⟨vals, P, h1, J, h2, h3, h4, fun m₂ H₂ acc hj a ha => ?_⟩
  obtain ⟨H', hW, q⟩ := h5 m₂ H₂ acc hj a ha
  exact ⟨_, _, WkL.refl, Wk.keep hW, q⟩

/-! ### turns that change nothing -/
theorem filter_take {α β : Type} {xs : List α} {i : Nat} {v : α} (h : xs[i]? = some v) (p : α → Bool) (f : α → β) : ((xs.take (i + 1)).filter p).map f = ((xs.take i).filter p).map f ++ (if p v = true then [f v] else []) := by
  rw [List.take_add_one, h, List.filter_append, List.map_append]
  congr 1
  show ((([v] : List α).filter p).map f) = _
  rw [List.filter_cons]
  split <;> rfl
theorem tst_mono {Q Q' : Bool → Lo → AH → Prop} (hq : ∀ b m H, Q b m H → Q' b m H) : ∀ {ifs : List PySem.Expr} {m : Lo} {H : AH}, TST C A fx ifs m H Q X → TST C A fx ifs m H Q' X
  | [], m, H, h => hq _ _ _ h
  | c :: r, m, H, h => by
    refine aw_mono h (fun b m₁ H₁ hb => ?_) fun _ _ _ z => z
    cases b with
    | true => exact if_yes (tst_mono hq (by simpa using hb))
    | false => exact if_no (hq _ _ _ (by simpa using hb))
theorem gens_lc {elt : PySem.Expr} {gs : List Comprehension} {scope : Scope} {pos : Pos} {ys : List Value} {post : Lo → AH → AO → Prop} (h : EV C A fx elt m H (fun v m₁ H₁ => ys.length ≤ 1000000 ∧ post m₁ H₁ (.list (ys ++ [v]))) noX) :
    GENS C A fx (.ListComp elt gs scope pos) [] m H (.list ys) post := by
  unfold GENS EMIT
  exact aw_mono h (fun v m₁ H₁ q => ⟨ys, rfl, q⟩) fun _ _ _ z => z
theorem gens_dc {ke ve : PySem.Expr} {gs : List Comprehension} {scope : Scope} {pos : Pos} {kvs : List (Int × Value)} {ep : Nat} {post : Lo → AH → AO → Prop} 
    (h : EV C A fx ke m H (fun k m₁ H₁ => EV C A fx ve m₁ H₁ (fun v m₂ H₂ => ∃ i, k = vI i ∧ kvs.length ≤ 1000000 ∧ ∀ ep', post m₂ H₂ (.dict (stored kvs i v) ep')) noX) noX) :
    GENS C A fx (.DictComp ke ve gs scope pos) [] m H (.dict kvs ep) post := by
  unfold GENS EMIT
  exact aw_mono h (fun k m₁ H₁ h₁ => aw_mono h₁ (fun v m₂ H₂ ⟨i, h1, h2, h3⟩ => ⟨i, kvs, ep, h1, rfl, h2, h3⟩) fun _ _ _ z => z) fun _ _ _ z => z
theorem turns_lc {elt : PySem.Expr} {g : Comprehension} {scope outer : Scope} {pos : Pos} {x : Value} {β : Type} {us : List β} {tv : β → Value} {P : AH → Prop} {G : AH → AO → Addr → Prop} (hb : scOkB scope outer = true)
    (hI : ITR C A fx x m₁ H₁ (us.map tv) P) (hP : ∀ H, Wk H H₁ → P H) (hz : us.length ≤ 1000000) (p : β → Bool) (f : β → Value)
    (turn : ∀ fx', Sc fx' (relS scope outer) scope.names → ∀ v ∈ us, ASG C A fx' g.target (tv v) (freeLo scope m₁) H₁ (fun m₂ H₂ => TST C A fx' g.ifs m₂ H₂ (fun ok m₃ H₃ => ok = p v ∧
      if ok = true then EV C A fx' elt m₃ H₃ (fun y m₄ H₄ => y = f v ∧ WkL m₄ (freeLo scope m₁) ∧ Wk H₄ H₁) noX else WkL m₃ (freeLo scope m₁) ∧ Wk H₃ H₁) noX) noX)
    (fin : ∀ a, a ∉ H₁.keys → G H₁ (.list ((us.filter p).map f)) a) (hsc : fx.env.scope = outer) :
    TURNS C A fx (.ListComp elt [g] scope pos) scope outer g [] x (.list []) m₁ H₁ (WkF G) := by
  refine ⟨us.map tv, P, hI, fun i m H acc => acc = .list (((us.take i).filter p).map f) ∧ WkL m (freeLo scope m₁) ∧ Wk H H₁, ⟨by simp, WkL.refl, Wk.refl⟩, fun i m H acc h => hP H h.2.2, ?_, ?_⟩
  · rintro fx' hc hsc' i v' m H acc hv' ⟨rfl, hm, hH⟩
    rw [List.getElem?_map] at hv'
    obtain ⟨v, hv, rfl⟩ := Option.map_eq_some_iff.mp hv'
    refine asg_wk hm hH ?_
    have hlt := (List.getElem?_eq_some_iff.mp hv).1
    have Z' := hc.toSc hsc (ScOk.of hb)
    intro a ha
    refine aw_mono (turn fx' Z' v (List.mem_of_getElem? hv) a ha) (fun _ m₂ H₂ h₂ => ?_) fun _ _ _ z => z
    refine tst_mono ?_ h₂
    rintro ok m₃ H₃ ⟨hok, ht⟩
    cases ok with
    | true =>
      refine if_yes ?_
      rw [if_pos rfl] at ht
      refine gens_lc (aw_mono ht (fun y m₄ H₄ h₄ => ?_) fun _ _ _ z => z)
      obtain ⟨hy, hm₄, hH₄⟩ := h₄
      refine ⟨?_, ?_, hm₄, hH₄⟩
      · have := List.length_filter_le p (us.take i)
        rw [List.length_take] at this
        rw [List.length_map]; exact Nat.le_trans this (Nat.le_trans (Nat.min_le_right _ _) hz)
      · rw [filter_take hv p f, hy, ← hok, if_pos rfl]
    | false =>
      rw [if_neg (by decide)] at ht
      obtain ⟨hm₃, hH₃⟩ := ht
      refine if_no ⟨?_, hm₃, hH₃⟩
      rw [filter_take hv p f, ← hok, if_neg (by decide), List.append_nil]
  · rintro m₂ H₂ acc ⟨rfl, hm, hH⟩ a ha
    rw [List.length_map, List.take_length]
    refine ⟨H₁, hH, fin a fun hk => ha ?_⟩
    obtain ⟨q, hq, e⟩ := List.mem_map.mp hk
    rw [← e]
    exact mem_keys (hH.1 _ hq)
theorem map_take {α β : Type} {xs : List α} {i : Nat} {v : α} (h : xs[i]? = some v) (f : α → β) : (xs.take (i + 1)).map f = (xs.take i).map f ++ [f v] := by
  rw [List.take_add_one, h, List.map_append]; rfl
theorem take_fresh {α β : Type} {xs : List α} {i : Nat} {v : α} (h : xs[i]? = some v) (f : α → β) (hn : (xs.map f).Nodup) : f v ∉ (xs.take i).map f := by
  have e : xs.map f = (xs.take (i + 1)).map f ++ (xs.drop (i + 1)).map f := by rw [← List.map_append, List.take_append_drop]
  rw [e, map_take h f, List.nodup_append] at hn
  have := (List.nodup_append.mp hn.1).2.2
  exact fun hm => this _ hm _ (List.mem_singleton.mpr rfl) rfl
theorem turns_dc {ke ve : PySem.Expr} {g : Comprehension} {scope outer : Scope} {pos : Pos} {x : Value} {β : Type} {us : List β} {tv : β → Value} {P : AH → Prop} {G : AH → AO → Addr → Prop} (hb : scOkB scope outer = true) (hif : g.ifs = [])
    (hI : ITR C A fx x m₁ H₁ (us.map tv) P) (hP : ∀ H, Wk H H₁ → P H) (hz : us.length ≤ 1000000) (kf : β → Int) (f : β → Value) (hn : (us.map kf).Nodup)
    (turn : ∀ fx', Sc fx' (relS scope outer) scope.names → ∀ v ∈ us, ASG C A fx' g.target (tv v) (freeLo scope m₁) H₁ (fun m₂ H₂ => 
      EV C A fx' ke m₂ H₂ (fun k m₃ H₃ => k = vI (kf v) ∧ EV C A fx' ve m₃ H₃ (fun y m₄ H₄ => y = f v ∧ WkL m₄ (freeLo scope m₁) ∧ Wk H₄ H₁) noX) noX) noX)
    (fin : ∀ a ep, a ∉ H₁.keys → G H₁ (.dict (us.map fun v => (kf v, f v)) ep) a) (hsc : fx.env.scope = outer) :
    TURNS C A fx (.DictComp ke ve [g] scope pos) scope outer g [] x (.dict [] 0) m₁ H₁ (WkF G) := by
  refine ⟨us.map tv, P, hI, fun i m H acc => (∃ ep, acc = .dict ((us.take i).map fun v => (kf v, f v)) ep) ∧ WkL m (freeLo scope m₁) ∧ Wk H H₁, ⟨⟨0, by simp⟩, WkL.refl, Wk.refl⟩, fun i m H acc h => hP H h.2.2, ?_, ?_⟩
  · rintro fx' hc hsc' i v' m H acc hv' ⟨⟨ep, rfl⟩, hm, hH⟩
    rw [List.getElem?_map] at hv'
    obtain ⟨v, hv, rfl⟩ := Option.map_eq_some_iff.mp hv'
    refine asg_wk hm hH ?_
    have hlt := (List.getElem?_eq_some_iff.mp hv).1
    have Z' := hc.toSc hsc (ScOk.of hb)
    intro a ha
    refine aw_mono (turn fx' Z' v (List.mem_of_getElem? hv) a ha) (fun _ m₂ H₂ h₂ => ?_) fun _ _ _ z => z
    rw [hif]
    refine tst_nil (if_yes (gens_dc (aw_mono h₂ (fun k m₃ H₃ h₃ => ?_) fun _ _ _ z => z)))
    obtain ⟨hk, h₃⟩ := h₃
    refine aw_mono h₃ (fun y m₄ H₄ h₄ => ?_) fun _ _ _ z => z
    obtain ⟨hy, hm₄, hH₄⟩ := h₄
    refine ⟨kf v, hk, by rw [List.length_map, List.length_take]; exact Nat.le_trans (Nat.min_le_right _ _) hz, fun ep' => ⟨⟨ep', ?_⟩, hm₄, hH₄⟩⟩
    rw [map_take hv fun v => (kf v, f v), stored_not, hy]
    rw [List.map_map]
    exact take_fresh hv kf hn
  · rintro m₂ H₂ acc ⟨⟨ep, rfl⟩, hm, hH⟩ a ha
    rw [List.length_map, List.take_length]
    refine ⟨H₁, hH, fin a ep fun hk => ha ?_⟩
    obtain ⟨q, hq, e⟩ := List.mem_map.mp hk
    rw [← e]
    exact mem_keys (hH.1 _ hq)
noncomputable def LC (ls : List (Addr × List Int)) : AH := ls.map fun p => (p.1, AO.list (iv p.2))
theorem LC_append (a b : List (Addr × List Int)) : LC (a ++ b) = LC a ++ LC b := List.map_append
noncomputable def kvL (kl : List (Int × Addr × List Int)) : List (Int × Value) := kl.map fun p => (p.1, Value.ref p.2.1)
theorem turns_dcl {ke ve : PySem.Expr} {g : Comprehension} {scope outer : Scope} {pos : Pos} {x : Value} {ns : List Int} {P : AH → Prop} {G : AH → AO → Addr → Prop} (hb : scOkB scope outer = true) (hif : g.ifs = [])
    (hI : ITR C A fx x m₁ H₁ (iv ns) P) (hP : ∀ H, Wk H H₁ → P H) (hz : ns.length ≤ 1000000) (f : Int → List Int) (hn : ns.Nodup)
    (turn : ∀ fx', Sc fx' (relS scope outer) scope.names → ∀ n ∈ ns, ∀ H₂, Wk H₂ H₁ → ASG C A fx' g.target (vI n) (freeLo scope m₁) H₂ (fun m₂ H₂' => 
      EV C A fx' ke m₂ H₂' (fun k m₃ H₃ => k = vI n ∧ EV C A fx' ve m₃ H₃ (fun y m₄ H₄ => ∃ a, y = .ref a ∧ WkL m₄ (freeLo scope m₁) ∧ Wk H₄ ((a, .list (iv (f n))) :: H₂)) noX) noX) noX)
    (fin : ∀ a ep kl, a ∉ AH.keys (LC (kl.map (·.2)) ++ H₁) → kl.map (fun p => (p.1, p.2.2)) = ns.map (fun n => (n, f n)) → G (LC (kl.map (·.2)) ++ H₁) (.dict (kvL kl) ep) a) (hsc : fx.env.scope = outer) :
    TURNS C A fx (.DictComp ke ve [g] scope pos) scope outer g [] x (.dict [] 0) m₁ H₁ (WkF G) := by
  refine ⟨iv ns, P, hI, fun i m H acc => (∃ ep kl, acc = .dict (kvL kl) ep ∧ kl.map (fun p => (p.1, p.2.2)) = (ns.take i).map (fun n => (n, f n)) ∧ Wk H (LC (kl.map (·.2)) ++ H₁)) ∧ WkL m (freeLo scope m₁), ⟨⟨0, [], rfl, by simp, Wk.refl⟩, WkL.refl⟩, fun i m H acc ⟨⟨ep, kl, _, _, h⟩, _⟩ => hP H (h.trans (Wk.sub (List.sublist_append_right _ _))), ?_, ?_⟩
  · rintro fx' hc hsc' i v m H acc hv ⟨⟨ep, kl, rfl, hkl, hH⟩, hm⟩
    obtain ⟨n, hn0, rfl⟩ := iv_get hv; clear hv; rename ns[i]? = some n => hv
    refine asg_wk hm hH ?_
    have hlt := (List.getElem?_eq_some_iff.mp hv).1
    have Z' := hc.toSc hsc (ScOk.of hb)
    intro a ha
    refine aw_mono (turn fx' Z' n (List.mem_of_getElem? hv) _ (Wk.sub (List.sublist_append_right _ _)) a ha) (fun _ m₂ H₂ h₂ => ?_) fun _ _ _ z => z
    rw [hif]
    refine tst_nil (if_yes (gens_dc (aw_mono h₂ (fun k m₃ H₃ h₃ => ?_) fun _ _ _ z => z)))
    obtain ⟨hk, h₃⟩ := h₃
    refine aw_mono h₃ (fun y m₄ H₄ h₄ => ?_) fun _ _ _ z => z
    obtain ⟨l, hy, hm₄, hH₄⟩ := h₄
    have hlen : kl.length ≤ 1000000 := by
      have := congrArg List.length hkl
      rw [List.length_map, List.length_map, List.length_take] at this
      exact Nat.le_trans (Nat.le_of_eq this) (Nat.le_trans (Nat.min_le_right _ _) hz)
    refine ⟨n, hk, by unfold kvL; rw [List.length_map]; exact hlen, fun ep' => ⟨⟨ep', kl ++ [(n, l, f n)], ?_, ?_, ?_⟩, hm₄⟩⟩
    · rw [stored_not]
      · unfold kvL; rw [List.map_append, hy]; rfl
      · unfold kvL
        rw [List.map_map]
        have e : kl.map ((fun x : Int × Value => x.1) ∘ fun p : Int × Addr × List Int => (p.1, Value.ref p.2.1)) = (ns.take i).map id := by
          have := congrArg (List.map (·.1)) hkl
          rw [List.map_map, List.map_map] at this
          exact this
        have h5 := take_fresh hv id (by rw [List.map_id]; exact hn)
        rw [← e] at h5
        exact h5
    · rw [List.map_append, hkl, map_take hv fun n => (n, f n)]; rfl
    · rw [List.map_append, LC_append]
      refine hH₄.trans (Wk.perm ?_)
      rw [List.append_assoc]
      exact (List.perm_middle (l₁ := LC (kl.map (·.2)))).symm
  · rintro m₂ H₂ acc ⟨⟨ep, kl, rfl, hkl, hH⟩, hm⟩ a ha
    rw [List.length_map, List.take_length] at hkl
    refine ⟨_, hH, fin a ep kl (fun hk => ha ?_) hkl⟩
    obtain ⟨q, hq, e⟩ := List.mem_map.mp hk
    rw [← e]
    exact mem_keys (hH.1 _ hq)
theorem turns_lcl {elt : PySem.Expr} {g : Comprehension} {scope outer : Scope} {pos : Pos} {x : Value} {β : Type} {us : List β} {tv : β → Value} {P : AH → Prop} {G : AH → AO → Addr → Prop} (hb : scOkB scope outer = true) (hif : g.ifs = [])
    (hI : ITR C A fx x m₁ H₁ (us.map tv) P) (hP : ∀ H, Wk H H₁ → P H) (hz : us.length ≤ 1000000) (f : β → List Int)
    (turn : ∀ fx', Sc fx' (relS scope outer) scope.names → ∀ v ∈ us, ∀ H₂, Wk H₂ H₁ → ASG C A fx' g.target (tv v) (freeLo scope m₁) H₂ (fun m₂ H₂' => 
      EV C A fx' elt m₂ H₂' (fun y m₄ H₄ => ∃ a, y = .ref a ∧ WkL m₄ (freeLo scope m₁) ∧ Wk H₄ ((a, .list (iv (f v))) :: H₂)) noX) noX)
    (fin : ∀ a ls, a ∉ AH.keys (LC ls ++ H₁) → ls.map (·.2) = us.map f → G (LC ls ++ H₁) (.list (ls.map fun p => .ref p.1)) a) (hsc : fx.env.scope = outer) :
    TURNS C A fx (.ListComp elt [g] scope pos) scope outer g [] x (.list []) m₁ H₁ (WkF G) := by
  refine ⟨us.map tv, P, hI, fun i m H acc => (∃ ls, acc = .list (ls.map fun p => .ref p.1) ∧ ls.map (·.2) = (us.take i).map f ∧ Wk H (LC ls ++ H₁)) ∧ WkL m (freeLo scope m₁), ⟨⟨[], rfl, by simp, Wk.refl⟩, WkL.refl⟩, fun i m H acc ⟨⟨kl, _, _, h⟩, _⟩ => hP H (h.trans (Wk.sub (List.sublist_append_right _ _))), ?_, ?_⟩
  · rintro fx' hc hsc' i v' m H acc hv' ⟨⟨ls, rfl, hkl, hH⟩, hm⟩
    rw [List.getElem?_map] at hv'
    obtain ⟨v, hv, rfl⟩ := Option.map_eq_some_iff.mp hv'
    refine asg_wk hm hH ?_
    have hlt := (List.getElem?_eq_some_iff.mp hv).1
    have Z' := hc.toSc hsc (ScOk.of hb)
    intro a ha
    refine aw_mono (turn fx' Z' v (List.mem_of_getElem? hv) _ (Wk.sub (List.sublist_append_right _ _)) a ha) (fun _ m₂ H₂ h₂ => ?_) fun _ _ _ z => z
    rw [hif]
    refine tst_nil (if_yes (gens_lc (aw_mono h₂ (fun y m₄ H₄ h₄ => ?_) fun _ _ _ z => z)))
    obtain ⟨l, hy, hm₄, hH₄⟩ := h₄
    have hlen : ls.length ≤ 1000000 := by
      have := congrArg List.length hkl
      rw [List.length_map, List.length_map, List.length_take] at this
      exact Nat.le_trans (Nat.le_of_eq this) (Nat.le_trans (Nat.min_le_right _ _) hz)
    refine ⟨by rw [List.length_map]; exact hlen, ⟨ls ++ [(l, f v)], by rw [List.map_append, hy]; rfl, by rw [List.map_append, hkl, map_take hv f]; rfl, ?_⟩, hm₄⟩
    rw [LC_append]
    refine hH₄.trans (Wk.perm ?_)
    rw [List.append_assoc]
    exact (List.perm_middle (l₁ := LC ls)).symm
  · rintro m₂ H₂ acc ⟨⟨ls, rfl, hkl, hH⟩, hm⟩ a ha
    rw [List.length_map, List.take_length] at hkl
    refine ⟨_, hH, fin a ls (fun hk => ha ?_) hkl⟩
    obtain ⟨q, hq, e⟩ := List.mem_map.mp hk
    rw [← e]
    exact mem_keys (hH.1 _ hq)
end
end Mine

namespace Mine
set_option maxRecDepth 100000
open PySem PySem.W PyProof.Rows
open Sem (wp)

section
variable {α : Type} {C : Cfg} {A A' : Around} {fx fx' : Fx} {m m' m₁ : Lo} {H H' H₁ : AH} {X : Value → Lo → AH → Prop} {K : Frag} {s s' s₁ : Shared} {Q : Value → Lo → AH → Prop}

/-! ### += on lists -/
noncomputable def DAT (C : Cfg) (H : AH) (v : Value) (d : PyData) : Prop := ∀ A fx m s, St C A fx m H s → ∀ a, er a = v → ∃ as, Reads s.heap a d as
noncomputable def DATS (C : Cfg) (H : AH) : List Value → List PyData → Prop
  | [], [] => True
  | v :: r, d :: q => DAT C H v d ∧ DATS C H r q
  | _, _ => False
theorem DAT.int (i : Int) : DAT C H (vI i) (.int i) := fun A fx m s S a ha => by
  obtain ⟨t, rfl⟩ := er_eq_int ha; exact ⟨_, .int i t⟩
theorem DAT.bool (b : Bool) : DAT C H (.bool b) (.bool b) := fun A fx m s S a ha => by
  obtain rfl := er_eq_bool ha; exact ⟨_, .bool b⟩
theorem DATS.reads : ∀ {vs : List Value} {ds : List PyData}, DATS C H vs ds → St C A fx m H s → ∀ us : List Value, us.map er = vs → ∃ as, ReadsAll s.heap us ds as
  | [], [], _, S, us, hu => by
    obtain rfl := List.map_eq_nil_iff.mp hu
    exact ⟨_, .nil⟩
  | v :: r, d :: q, h, S, us, hu => by
    rcases us with _ | ⟨u, us⟩
    · cases hu
    · obtain ⟨h1, h2⟩ := List.cons.inj hu
      obtain ⟨as, ha⟩ := h.1 A fx m s S u h1
      obtain ⟨bs, hb⟩ := DATS.reads h.2 S us h2
      exact ⟨_, .cons ha hb⟩
  | [], _ :: _, h, _, _, _ => h.elim
  | _ :: _, [], h, _, _, _ => h.elim
theorem DAT.list {l : Addr} {xs : List Value} {ds : List PyData} (hl : (l, AO.list xs) ∈ H) (h : DATS C H xs ds) : DAT C H (.ref l) (.list ds) := fun A fx m s S a ha => by
  obtain rfl := er_eq_ref ha
  obtain ⟨vs, ⟨o, ho, hc, n, hd⟩, h2⟩ := S.isList hl
  obtain ⟨as, hr⟩ := DATS.reads h S vs.toList h2
  exact ⟨_, .list ho hc hd hr⟩
theorem DAT.tup {l : Addr} {xs : List Value} {ds : List PyData} (hl : (l, AO.tup xs) ∈ H) (h : DATS C H xs ds) : DAT C H (.ref l) (.tuple ds) := fun A fx m s S a ha => by
  obtain rfl := er_eq_ref ha
  obtain ⟨vs, ⟨o, ho, hc, n, hd⟩, h2⟩ := S.isTup hl
  obtain ⟨as, hr⟩ := DATS.reads h S vs.toList h2
  exact ⟨_, .tuple ho hc hd hr⟩
theorem DATS.ints : ∀ ns : List Int, DATS C H (iv ns) (ns.map PyData.int)
  | [] => trivial
  | n :: r => ⟨DAT.int n, DATS.ints r⟩
theorem DAT.ints {l : Addr} {ns : List Int} (hl : (l, AO.list (iv ns)) ∈ H) : DAT C H (.ref l) (.list (ns.map PyData.int)) := DAT.list hl (DATS.ints ns)
theorem DATS.lists : ∀ {ls : List (Addr × List Int)}, (∀ p ∈ ls, (p.1, AO.list (iv p.2)) ∈ H) → DATS C H (ls.map fun p => .ref p.1) (ls.map fun p => .list (p.2.map PyData.int))
  | [], _ => trivial
  | p :: r, h => ⟨DAT.ints (h p List.mem_cons_self), DATS.lists fun q hq => h q (List.mem_cons_of_mem _ hq)⟩
theorem co_eq_dat {x y : Value} {d d' : PyData} (hu : A.units + 64 < cLine) (hx : DAT C H x d) (hy : DAT C H y d') (h1 : PySem.SeqAt.shaped d = true) (h2 : PySem.SeqAt.shaped d' = true) (h : Q (.bool (PyData.eqv d d')) m H) : CO C A fx .Eq x y m H Q X := fun a b ha hb => by
  intro s S
  obtain ⟨as, ra⟩ := hx A fx m s S a ha
  obtain ⟨bs, rb⟩ := hy A fx m s S b hb
  exact eq_dataH ra rb h1 h2 hu ⟨m, H, S, Ext.refl' S, h⟩
theorem co_ne_dat {x y : Value} {d d' : PyData} (hu : A.units + 64 < cLine) (hx : DAT C H x d) (hy : DAT C H y d') (h1 : PySem.SeqAt.shaped d = true) (h2 : PySem.SeqAt.shaped d' = true) (h : Q (.bool (!PyData.eqv d d')) m H) : CO C A fx .NotEq x y m H Q X := fun a b ha hb => by
  intro s S
  obtain ⟨as, ra⟩ := hx A fx m s S a ha
  obtain ⟨bs, rb⟩ := hy A fx m s S b hb
  exact ne_dataH ra rb h1 h2 hu ⟨m, H, S, Ext.refl' S, h⟩
theorem eqv_ints (ns ms : List Int) : PyData.eqv (.list (ns.map PyData.int)) (.list (ms.map PyData.int)) = decide (ns = ms) := by
  rw [← PySem.SeqAt.same_eq_eqv _ _ (by simp only [PySem.SeqAt.noMix]; exact noMix_ints ns ms)]
  simp only [PySem.Spec.same]
  exact same_ints ns ms
theorem eqvAll_lists : ∀ (as bs : List (List Int)), PyData.eqvAll (as.map fun p => .list (p.map PyData.int)) (bs.map fun p => .list (p.map PyData.int)) = decide (as = bs)
  | [], [] => by simp [PyData.eqvAll]
  | [], _ :: _ => by simp [PyData.eqvAll]
  | _ :: _, [] => by simp [PyData.eqvAll]
  | a :: r, b :: q => by
    simp only [List.map_cons, PyData.eqvAll, eqvAll_lists r q, eqv_ints]
    by_cases h : a = b <;> by_cases h' : r = q <;> simp [h, h']
theorem eqv_lists (as bs : List (List Int)) : PyData.eqv (.list (as.map fun p => .list (p.map PyData.int))) (.list (bs.map fun p => .list (p.map PyData.int))) = decide (as = bs) := by
  rw [PyData.eqv]; exact eqvAll_lists as bs
theorem shaped_lists (as : List (List Int)) : PySem.SeqAt.shaped (.list (as.map fun p => .list (p.map PyData.int))) = true := by
  have h1 : ∀ as : List (List Int), PyData.canLayAll0 (as.map fun p => .list (p.map PyData.int)) = true := by
    intro as
    induction as with
    | nil => simp [PyData.canLayAll0]
    | cons a r ih => simp [PyData.canLayAll0, PyData.canLay0, canLayAll0_ints, ih]
  have h2 : ∀ as : List (List Int), PyData.depthAll (as.map fun p => .list (p.map PyData.int)) ≤ 2 := by
    intro as
    induction as with
    | nil => simp [PyData.depthAll]
    | cons a r ih =>
      have := W.depthAll_ints a
      simp only [List.map_cons, PyData.depthAll, PyData.depth]
      omega
  have h3 : PyData.depth (.list (as.map fun p => .list (p.map PyData.int))) ≤ 64 := by have := h2 as; simp only [PyData.depth]; omega
  show (PyData.canLay0 _ && decide (PyData.depth _ ≤ 64)) = true
  rw [Bool.and_eq_true]
  exact ⟨by simp only [PyData.canLay0]; exact h1 as, decide_eq_true h3⟩
noncomputable def DL (H : AH) (d : Addr) (kl : List (Int × Addr × List Int)) : Prop := (∃ ep, (d, AO.dict (kvL kl) ep) ∈ H) ∧ ∀ p ∈ kl, (p.2.1, AO.list (iv p.2.2)) ∈ H
theorem DL.wk {d : Addr} {kl : List (Int × Addr × List Int)} (h : DL H d kl) (hs : Wk H' H) : DL H' d kl := ⟨let ⟨ep, h1⟩ := h.1; ⟨ep, hs.1 _ h1⟩, fun p hp => hs.1 _ (h.2 p hp)⟩
theorem DL.here {d : Addr} {ep : Nat} {kl : List (Int × Addr × List Int)} : DL ((d, .dict (kvL kl) ep) :: (LC (kl.map (·.2)) ++ H)) d kl :=
  ⟨⟨ep, List.mem_cons_self⟩, fun p hp => List.mem_cons_of_mem _ (List.mem_append_left _ (List.mem_map.mpr ⟨p.2, List.mem_map.mpr ⟨p, hp, rfl⟩, rfl⟩))⟩
theorem kvL_keys {kl : List (Int × Addr × List Int)} : (kvL kl).map (·.1) = kl.map (·.1) := by unfold kvL; rw [List.map_map]; rfl
theorem dval_kvL {kl : List (Int × Addr × List Int)} {p : Int × Addr × List Int} (hn : (kl.map (·.1)).Nodup) (hp : p ∈ kl) : dval (kvL kl) p.1 = some (.ref p.2.1) :=
  dval_mem (by rw [kvL_keys]; exact hn) (List.mem_map.mpr ⟨p, hp, rfl⟩)
end
end Mine

namespace Mine

/-! ### counts of needs that are not done -/
noncomputable def cnt (D : List Int) (g : G) (k : Int) : Nat := (g.map fun p => if p.1 ∈ D then 0 else p.2.2.count k).sum
noncomputable def nodes (g : G) : List Int := g.map (·.1)
structure WG (g : G) : Prop where
  nd : (nodes g).Nodup
  cl : ∀ x ∈ nodes g, ∀ k ∈ gSuc g x, k ∈ nodes g
  np : ∀ p ∈ g, p.2.1 = (cnt [] g p.1 : Nat)

theorem gSuc_of {g : G} {k v : Int} {su : List Int} (hn : (nodes g).Nodup) (h : (k, v, su) ∈ g) : gSuc g k = su := by
  unfold gSuc; rw [gAt_mem hn h]; rfl
theorem gSuc_none {g : G} {k : Int} (h : k ∉ nodes g) : gSuc g k = [] := by
  unfold gSuc
  cases e : gAt g k with
  | none => rfl
  | some x => exact absurd (List.mem_map_of_mem (f := (·.1)) (mem_gAt e)) h
theorem gSuc_node {g : G} {k s : Int} (h : s ∈ gSuc g k) : k ∈ nodes g := by
  by_cases hk : k ∈ nodes g
  · exact hk
  · rw [gSuc_none hk] at h; cases h
theorem node_mem {g : G} {k : Int} (hn : (nodes g).Nodup) (h : k ∈ nodes g) : ∃ v, (k, v, gSuc g k) ∈ g := gSuc_mem hn h
theorem cnt_zero {D : List Int} {g : G} {k : Int} (hn : (nodes g).Nodup) : cnt D g k = 0 ↔ ∀ x, k ∈ gSuc g x → x ∈ D := by
  unfold cnt
  rw [List.sum_eq_zero_iff_forall_eq_nat]
  constructor
  · intro h x hx
    obtain ⟨v, hv⟩ := node_mem hn (gSuc_node hx)
    have := h _ (List.mem_map.mpr ⟨_, hv, rfl⟩)
    by_cases hd : x ∈ D
    · exact hd
    · rw [if_neg hd] at this
      exact absurd hx (List.count_eq_zero.mp this)
  · intro h n hm
    obtain ⟨⟨x, v, su⟩, hp, rfl⟩ := List.mem_map.mp hm
    dsimp only
    by_cases hd : x ∈ D
    · rw [if_pos hd]
    · rw [if_neg hd, List.count_eq_zero]
      exact fun hk => hd (h x (by rw [gSuc_of hn hp]; exact hk))
theorem cnt_done {D : List Int} {x k : Int} (hD : x ∉ D) : ∀ {g : G}, (nodes g).Nodup → x ∈ nodes g → cnt D g k = cnt (D ++ [x]) g k + (gSuc g x).count k
  | [], _, h => by cases h
  | (y, v, su) :: r, hn, h => by
    have hn' := List.nodup_cons.mp hn
    have e0 : ∀ E : List Int, cnt E ((y, v, su) :: r) k = (if y ∈ E then 0 else su.count k) + cnt E r k := fun E => by
      unfold cnt; rw [List.map_cons, List.sum_cons]
    rw [e0, e0]
    by_cases hy : y = x
    · subst hy
      rw [if_neg hD, if_pos (List.mem_append_right _ (List.mem_singleton.mpr rfl)), gSuc_of hn List.mem_cons_self]
      have : cnt (D ++ [y]) r k = cnt D r k := by
        unfold cnt
        congr 1
        refine List.map_congr_left fun p hp => ?_
        have hne : p.1 ≠ y := fun e => hn'.1 (by rw [← e]; exact List.mem_map_of_mem (f := (·.1)) hp)
        have hiff : p.1 ∈ D ++ [y] ↔ p.1 ∈ D := by rw [List.mem_append, List.mem_singleton]; exact ⟨fun h => h.resolve_right hne, .inl⟩
        by_cases hd : p.1 ∈ D
        · rw [if_pos hd, if_pos (hiff.mpr hd)]
        · rw [if_neg hd, if_neg fun h => hd (hiff.mp h)]
      omega
    · have hx : x ∈ nodes r := (List.mem_cons.mp h).resolve_left fun e => hy e.symm
      have ih := cnt_done (k := k) hD hn'.2 hx
      have es : gSuc ((y, v, su) :: r) x = gSuc r x := by
        unfold gSuc gAt
        rw [List.find?_cons]
        simp [hy]
      rw [es, ih]
      have hiff : y ∈ D ++ [x] ↔ y ∈ D := by rw [List.mem_append, List.mem_singleton]; exact ⟨fun h => h.resolve_right hy, .inl⟩
      by_cases hd : y ∈ D
      · rw [if_pos hd, if_pos (hiff.mpr hd)]; omega
      · rw [if_neg hd, if_neg fun h => hd (hiff.mp h)]; omega

/-! ### a state of the sorter, by the counts alone -/
noncomputable def gWith (g : G) (f : Int → Int) : G := g.map fun p => (p.1, f p.1, p.2.2)
theorem with_nodes {g : G} {f : Int → Int} : nodes (gWith g f) = nodes g := by
  unfold nodes gWith; rw [List.map_map]; rfl
theorem with_at {g : G} {f : Int → Int} {k : Int} : gAt (gWith g f) k = (gAt g k).map fun x => (f k, x.2) := by
  unfold gAt gWith
  induction g with
  | nil => rfl
  | cons p r ih =>
    rw [List.map_cons, List.find?_cons, List.find?_cons]
    by_cases h : p.1 = k
    · subst h; simp
    · rw [decide_eq_false h]
      exact ih
theorem with_suc {g : G} {f : Int → Int} {k : Int} : gSuc (gWith g f) k = gSuc g k := by
  unfold gSuc; rw [with_at, Option.map_map]; rfl
theorem with_upd {g : G} {f : Int → Int} {k : Int} (h : Int → Int) : gUpd (gWith g f) k (fun x => (h x.1, x.2)) = gWith g (fun j => if j = k then h (f j) else f j) := by
  unfold gUpd gWith
  rw [List.map_map]
  refine List.map_congr_left fun p _ => ?_
  simp only [Function.comp]
  by_cases e : p.1 = k
  · rw [if_pos e, if_pos e]
  · rw [if_neg e, if_neg e]
theorem with_congr {g : G} {f f' : Int → Int} (h : ∀ k ∈ nodes g, f k = f' k) : gWith g f = gWith g f' := by
  unfold gWith
  exact List.map_congr_left fun p hp => by rw [h p.1 (List.mem_map_of_mem (f := (·.1)) hp)]
theorem with_set {g : G} {v : Int} : ∀ {rs : List Int} {f : Int → Int}, rs.foldl (gSet v) (gWith g f) = gWith g (fun k => if k ∈ rs then v else f k)
  | [], f => by simp
  | r :: rs, f => by
    rw [List.foldl_cons]
    unfold gSet
    rw [with_upd (fun _ => v)]
    have := with_set (g := g) (v := v) (rs := rs) (f := fun j => if j = r then v else f j)
    unfold gSet at this
    rw [this]
    refine with_congr fun k _ => ?_
    by_cases h1 : k ∈ rs
    · simp [h1]
    · by_cases h2 : k = r
      · subst h2; simp
      · simp [h1, h2]

noncomputable def SelfSup (g : G) (S : List Int) : Prop := ∀ k ∈ S, ∃ x ∈ S, k ∈ gSuc g x
noncomputable def stF (g : G) (D O : List Int) (k : Int) : Int := if k ∈ D then -2 else if k ∈ O then -1 else (cnt D g k : Nat)
structure Rnd (g₀ : G) (D O L : List Int) (g : G) : Prop where
  eq : g = gWith g₀ (stF g₀ D O)
  sub : ∀ k ∈ D, k ∈ O
  inG : ∀ k ∈ O, k ∈ nodes g₀
  cl : ∀ k ∈ O, ∀ x, k ∈ gSuc g₀ x → x ∈ D
  rd : ∀ k, k ∈ L ↔ k ∈ nodes g₀ ∧ k ∉ O ∧ cnt D g₀ k = 0
  nd : L.Nodup
  no : ∀ S, SelfSup g₀ S → ∀ k ∈ O, k ∉ S
noncomputable def gFree (g : G) : List Int := (g.filter fun p => decide (p.2.1 = 0)).map (·.1)
theorem WG.with {g : G} (W : WG g) : g = gWith g (fun k => (cnt [] g k : Nat)) := by
  have h := W.np
  unfold gWith
  have : ∀ l : G, (∀ p ∈ l, p.2.1 = (cnt [] g p.1 : Nat)) → l = l.map fun p => (p.1, ((cnt [] g p.1 : Nat) : Int), p.2.2) := by
    intro l
    induction l with
    | nil => intro _; rfl
    | cons p r ih =>
      intro hp
      rw [List.map_cons, ← ih fun q hq => hp q (List.mem_cons_of_mem _ hq), ← hp p List.mem_cons_self]
  exact this g h
theorem gFree_mem {g : G} (W : WG g) {k : Int} : k ∈ gFree g ↔ k ∈ nodes g ∧ cnt [] g k = 0 := by
  unfold gFree
  constructor
  · intro h
    obtain ⟨p, hp, rfl⟩ := List.mem_map.mp h
    obtain ⟨h1, h2⟩ := List.mem_filter.mp hp
    refine ⟨List.mem_map_of_mem (f := (·.1)) h1, ?_⟩
    have := of_decide_eq_true h2
    rw [W.np p h1] at this
    omega
  · rintro ⟨h1, h2⟩
    obtain ⟨p, hp, rfl⟩ := List.mem_map.mp h1
    refine List.mem_map.mpr ⟨p, List.mem_filter.mpr ⟨hp, decide_eq_true ?_⟩, rfl⟩
    rw [W.np p hp, h2]; rfl
theorem gFree_nd {g : G} (W : WG g) : (gFree g).Nodup := W.nd.sublist (List.Sublist.map _ List.filter_sublist)
theorem Rnd.init {g : G} (W : WG g) : Rnd g [] [] (gFree g) g := by
  refine ⟨?_, fun k h => (by cases h), fun k h => (by cases h), fun k h => (by cases h), fun k => ?_, gFree_nd W, fun S _ k h => (by cases h)⟩
  · rw [show stF g [] [] = fun k => ((cnt [] g k : Nat) : Int) from funext fun k => by unfold stF; simp]
    exact W.with
  · rw [gFree_mem W]; simp
theorem Rnd.get {g₀ g : G} {D O L : List Int} (W : WG g₀) (h : Rnd g₀ D O L g) : Rnd g₀ D (O ++ L) [] (L.foldl (gSet (-1)) g) := by
  have hL := fun k => (h.rd k).mp
  refine ⟨?_, fun k hk => List.mem_append_left _ (h.sub k hk), fun k hk => ?_, fun k hk x hx => ?_, fun k => ⟨fun z => (by cases z), fun ⟨h1, h2, h3⟩ => ?_⟩, List.nodup_nil, fun S hS k hk => ?_⟩
  · rw [h.eq, with_set]
    refine with_congr fun k _ => ?_
    unfold stF
    by_cases hd : k ∈ D
    · have : k ∉ L := fun hk => (hL k hk).2.1 (h.sub k hd)
      simp [hd, this]
    · by_cases hk : k ∈ L
      · simp [hd, hk]
      · simp [hd, hk]
  · rcases List.mem_append.mp hk with hk | hk
    · exact h.inG k hk
    · exact (hL k hk).1
  · rcases List.mem_append.mp hk with hk | hk
    · exact h.cl k hk x hx
    · exact (cnt_zero W.nd).mp (hL k hk).2.2 x hx
  · rw [List.mem_append, not_or] at h2
    exact absurd ((h.rd k).mpr ⟨h1, h2.1, h3⟩) h2.2
  · rcases List.mem_append.mp hk with hk | hk
    · exact h.no S hS k hk
    · intro hs
      obtain ⟨x, hx, hkx⟩ := hS k hs
      exact h.no S hS x (h.sub x ((cnt_zero W.nd).mp (hL k hk).2.2 x hkx)) hx
theorem decs_with {g₀ : G} {D O : List Int} {x : Int} (W : WG g₀) (hsub : ∀ k ∈ D, k ∈ O) (hO : ∀ k ∈ O, ∀ y, k ∈ gSuc g₀ y → y ∈ D) (hx : x ∉ D) (hxO : x ∈ O) (hxn : x ∈ nodes g₀) :
    ∀ (rest pr L : List Int), gSuc g₀ x = pr ++ rest → L.Nodup → (∀ k, k ∈ L ↔ k ∈ nodes g₀ ∧ k ∉ O ∧ cnt D g₀ k = pr.count k) →
    ∃ L', rest.foldl gDec (gWith g₀ (fun k => if k ∈ D ++ [x] then -2 else if k ∈ O then -1 else (cnt D g₀ k : Int) - (pr.count k : Int)), L) = (gWith g₀ (fun k => if k ∈ D ++ [x] then -2 else if k ∈ O then -1 else (cnt D g₀ k : Int) - ((gSuc g₀ x).count k : Int)), L') ∧
      L'.Nodup ∧ (∀ k, k ∈ L' ↔ k ∈ nodes g₀ ∧ k ∉ O ∧ cnt D g₀ k = (gSuc g₀ x).count k)
  | [], pr, L, e, hn, hL => by
    rw [List.append_nil] at e
    exact ⟨L, by rw [e]; rfl, hn, by rw [e]; exact hL⟩
  | s :: rest, pr, L, e, hn, hL => by
    have hs : s ∈ gSuc g₀ x := by rw [e]; exact List.mem_append_right _ List.mem_cons_self
    have hsO : s ∉ O := fun h => hx (hO s h x hs)
    have hsx : s ∉ D ++ [x] := fun h => by
      rcases List.mem_append.mp h with h | h
      · exact hsO (hsub s h)
      · exact hsO (by rw [List.mem_singleton.mp h]; exact hxO)
    have hsn : s ∈ nodes g₀ := W.cl x hxn s hs
    have hge : pr.count s + 1 ≤ cnt D g₀ s := by
      rw [cnt_done (k := s) hx W.nd hxn, e, List.count_append, List.count_cons_self]
      omega
    have e' : gSuc g₀ x = (pr ++ [s]) ++ rest := by rw [e, List.append_assoc]; rfl
    have hc : ∀ k, (pr ++ [s]).count k = pr.count k + if k = s then 1 else 0 := fun k => by
      rw [List.count_append, List.count_singleton]
      by_cases h : k = s
      · simp [h]
      · have : ¬ s = k := fun q => h q.symm
        simp [h, this]
    rw [List.foldl_cons]
    have hd : gDec (gWith g₀ (fun k => if k ∈ D ++ [x] then -2 else if k ∈ O then -1 else (cnt D g₀ k : Int) - (pr.count k : Int)), L) s =
        (gWith g₀ (fun k => if k ∈ D ++ [x] then -2 else if k ∈ O then -1 else (cnt D g₀ k : Int) - ((pr ++ [s]).count k : Int)), if cnt D g₀ s = pr.count s + 1 then L ++ [s] else L) := by
      unfold gDec
      dsimp only
      rw [with_upd (fun v => v - 1)]
      have hw : gWith g₀ (fun j => if j = s then (if j ∈ D ++ [x] then (-2 : Int) else if j ∈ O then -1 else (cnt D g₀ j : Int) - (pr.count j : Int)) - 1 else if j ∈ D ++ [x] then -2 else if j ∈ O then -1 else (cnt D g₀ j : Int) - (pr.count j : Int)) =
          gWith g₀ (fun k => if k ∈ D ++ [x] then -2 else if k ∈ O then -1 else (cnt D g₀ k : Int) - ((pr ++ [s]).count k : Int)) := by
        refine with_congr fun k _ => ?_
        rw [hc k]
        by_cases h : k = s
        · subst h
          rw [if_pos rfl, if_neg hsx, if_neg hsO, if_neg hsx, if_neg hsO, if_pos rfl]
          push_cast; omega
        · rw [if_neg h, if_neg h]; simp
      rw [hw, with_at]
      obtain ⟨v, hv⟩ := node_mem W.nd hsn
      rw [gAt_mem W.nd hv]
      simp only [Option.map_some, if_neg hsx, if_neg hsO, hc s, if_pos, Option.some.injEq]
      congr 1
      by_cases hz : cnt D g₀ s = pr.count s + 1
      · rw [if_pos hz, if_pos (by rw [hz]; push_cast; omega)]
      · rw [if_neg hz, if_neg (by push_cast; omega)]
    rw [hd]
    refine decs_with W hsub hO hx hxO hxn rest (pr ++ [s]) _ e' ?_ ?_
    · by_cases hz : cnt D g₀ s = pr.count s + 1
      · rw [if_pos hz, List.nodup_append]
        refine ⟨hn, by simp, fun a ha b hb => ?_⟩
        rw [List.mem_singleton.mp hb]
        intro q
        subst q
        have := ((hL a).mp ha).2.2
        omega
      · rw [if_neg hz]; exact hn
    · intro k
      rw [hc k]
      by_cases h : k = s
      · subst h
        rw [if_pos rfl]
        by_cases hz : cnt D g₀ k = pr.count k + 1
        · rw [if_pos hz]
          exact ⟨fun _ => ⟨hsn, hsO, hz⟩, fun _ => List.mem_append_right _ (List.mem_singleton.mpr rfl)⟩
        · rw [if_neg hz, hL k]
          exact ⟨fun z => by have := z.2.2; omega, fun z => absurd z.2.2 hz⟩
      · rw [if_neg h]
        show _ ↔ k ∈ nodes g₀ ∧ ¬k ∈ O ∧ cnt D g₀ k = List.count k pr
        rw [← hL k]
        by_cases hz : cnt D g₀ s = pr.count s + 1
        · rw [if_pos hz, List.mem_append, List.mem_singleton]
          exact ⟨fun z => z.resolve_right h, .inl⟩
        · rw [if_neg hz]
theorem Rnd.done1 {g₀ g : G} {D O L : List Int} {x : Int} (W : WG g₀) (h : Rnd g₀ D O L g) (hx : x ∉ D) (hxO : x ∈ O) : Rnd g₀ (D ++ [x]) O (gDone1 (g, L) x).2 (gDone1 (g, L) x).1 := by
  have hxn := h.inG x hxO
  have e1 : gDone1 (g, L) x = (gSuc g₀ x).foldl gDec (gWith g₀ (fun k => if k ∈ D ++ [x] then -2 else if k ∈ O then -1 else (cnt D g₀ k : Int) - (([] : List Int).count k : Int)), L) := by
    unfold gDone1
    rw [h.eq]
    show (gSuc (gWith g₀ (stF g₀ D O)) x).foldl gDec _ = _
    rw [with_suc]
    congr 2
    unfold gSet
    dsimp only
    rw [with_upd (fun _ => -2)]
    refine with_congr fun k _ => ?_
    unfold stF
    by_cases hk : k = x
    · subst hk; simp
    · have hiff : k ∈ D ++ [x] ↔ k ∈ D := by rw [List.mem_append, List.mem_singleton]; exact ⟨fun h => h.resolve_right hk, .inl⟩
      simp only [if_neg hk, hiff]
      simp
  obtain ⟨L', h1, h2, h3⟩ := decs_with W h.sub h.cl hx hxO hxn (gSuc g₀ x) [] L rfl h.nd (fun k => by rw [h.rd k]; simp)
  rw [e1, h1]
  have hcd := fun k => cnt_done (k := k) hx W.nd hxn
  refine ⟨?heq, fun k hk => ?_, h.inG, fun k hk y hy => List.mem_append_left _ (h.cl k hk y hy), fun k => ?_, h2, h.no⟩
  case heq =>
    dsimp only
    refine with_congr fun k _ => ?_
    unfold stF
    rw [hcd k]
    split
    · rfl
    · split
      · rfl
      · push_cast; omega
  · rcases List.mem_append.mp hk with hk | hk
    · exact h.sub k hk
    · rw [List.mem_singleton.mp hk]; exact hxO
  · rw [h3 k]
    have := hcd k
    constructor
    · rintro ⟨a, b, c⟩; exact ⟨a, b, by omega⟩
    · rintro ⟨a, b, c⟩; exact ⟨a, b, by omega⟩
theorem Rnd.done {g₀ : G} {O : List Int} (W : WG g₀) : ∀ (xs : List Int) {g : G} {D L : List Int}, Rnd g₀ D O L g → xs.Nodup → (∀ x ∈ xs, x ∈ O ∧ x ∉ D) → Rnd g₀ (D ++ xs) O (gDone (g, L) xs).2 (gDone (g, L) xs).1
  | [], g, D, L, h, _, _ => by rw [List.append_nil]; exact h
  | x :: r, g, D, L, h, hn, hx => by
    have hn' := List.nodup_cons.mp hn
    have h1 := h.done1 W (hx x List.mem_cons_self).2 (hx x List.mem_cons_self).1
    have h2 := Rnd.done W r h1 hn'.2 (fun y hy => ⟨(hx y (List.mem_cons_of_mem _ hy)).1, fun hm => by
      rcases List.mem_append.mp hm with hm | hm
      · exact (hx y (List.mem_cons_of_mem _ hy)).2 hm
      · rw [List.mem_singleton.mp hm] at hy; exact hn'.1 hy⟩)
    rw [List.append_assoc] at h2
    exact h2
theorem Rnd.out {g₀ g : G} {O D L : List Int} (W : WG g₀) (h : Rnd g₀ D O L g) {xs : List Int} (hn : xs.Nodup) (hx : ∀ x ∈ xs, x ∈ O ∧ x ∉ D) (i : Nat) (x : Int) (hi : xs[i]? = some x) :
    ∃ su, gAt (gDone (g, L) (xs.take i)).1 x = some (-1, su) := by
  have h1 := Rnd.done W (xs.take i) h (hn.sublist (List.take_sublist _ _)) (fun y hy => hx y (List.mem_of_mem_take hy))
  have hxm := List.mem_of_getElem? hi
  have hnt : x ∉ xs.take i := by have := take_fresh hi id (by rw [List.map_id]; exact hn); rwa [List.map_id] at this
  obtain ⟨v, hv⟩ := node_mem W.nd (h.inG x (hx x hxm).1)
  rw [h1.eq, with_at, gAt_mem W.nd hv]
  refine ⟨gSuc g₀ x, ?_⟩
  have hxD : x ∉ D ++ xs.take i := fun hm => (List.mem_append.mp hm).elim (hx x hxm).2 hnt
  show some (stF g₀ (D ++ xs.take i) O x, _) = _
  unfold stF
  rw [if_neg hxD, if_pos (hx x hxm).1]
theorem Rnd.round {g₀ g : G} {D L : List Int} (W : WG g₀) (h : Rnd g₀ D D L g) :
    (∀ i x, L[i]? = some x → ∃ su, gAt (gDone (L.foldl (gSet (-1)) g, []) (L.take i)).1 x = some (-1, su)) ∧
    Rnd g₀ (D ++ L) (D ++ L) (gDone (L.foldl (gSet (-1)) g, []) L).2 (gDone (L.foldl (gSet (-1)) g, []) L).1 := by
  have h1 := h.get W
  have hx : ∀ x ∈ L, x ∈ D ++ L ∧ x ∉ D := fun x hx => ⟨List.mem_append_right _ hx, ((h.rd x).mp hx).2.1⟩
  exact ⟨h1.out W h.nd hx, h1.done W L h.nd hx⟩
end Mine

namespace Mine

/-! ### the graph that is built -/
theorem at_append {g h : G} {k : Int} : gAt (g ++ h) k = (gAt g k).or (gAt h k) := by
  unfold gAt
  rw [List.find?_append]
  cases List.find? (fun p => decide (p.1 = k)) g <;> rfl
theorem at_some {g : G} {k : Int} (hn : (nodes g).Nodup) (h : k ∈ nodes g) : ∃ v, gAt g k = some (v, gSuc g k) := by
  obtain ⟨v, hv⟩ := node_mem hn h
  exact ⟨v, gAt_mem hn hv⟩
theorem ens_nodes {g : G} {k j : Int} : j ∈ nodes (gEns g k) ↔ j ∈ nodes g ∨ j = k := by
  unfold gEns
  by_cases h : k ∈ g.map (·.1)
  · rw [if_pos h]
    exact ⟨.inl, fun z => z.elim id fun e => by rw [e]; exact h⟩
  · rw [if_neg h]
    unfold nodes
    rw [List.map_append, List.mem_append]
    simp
theorem ens_nd {g : G} {k : Int} (hn : (nodes g).Nodup) : (nodes (gEns g k)).Nodup := by
  unfold gEns
  by_cases h : k ∈ g.map (·.1)
  · rw [if_pos h]; exact hn
  · rw [if_neg h]
    unfold nodes
    rw [List.map_append, List.nodup_append]
    refine ⟨hn, by simp, fun a ha b hb e => h ?_⟩
    rw [List.mem_singleton.mp hb] at e
    exact (show a = k from e) ▸ ha
theorem ens_suc {g : G} {k x : Int} : gSuc (gEns g k) x = gSuc g x := by
  unfold gEns
  by_cases h : k ∈ g.map (·.1)
  · rw [if_pos h]
  · rw [if_neg h]
    unfold gSuc
    rw [at_append]
    cases e : gAt g x with
    | some y => rfl
    | none =>
      by_cases hx : k = x
      · subst hx; simp [gAt]
      · simp [gAt, hx]
theorem ens_cnt {g : G} {k j : Int} : cnt [] (gEns g k) j = cnt [] g j := by
  unfold gEns
  by_cases h : k ∈ g.map (·.1)
  · rw [if_pos h]
  · rw [if_neg h]
    unfold cnt
    rw [List.map_append, List.sum_append]
    simp
theorem upd_cnt {g : G} {k j v : Int} : cnt [] (gNp g k v) j = cnt [] g j := by
  unfold cnt gNp gUpd
  rw [List.map_map]
  congr 1
  refine List.map_congr_left fun p _ => ?_
  simp only [Function.comp]
  split <;> rfl
theorem np_suc {g : G} {k x v : Int} : gSuc (gNp g k v) x = gSuc g x := by
  unfold gSuc gNp
  rw [gAt_upd, Option.map_map]
  congr 2
  funext y
  simp only [Function.comp]
  split <;> rfl
theorem su_cnt {p k j : Int} : ∀ {g : G}, (nodes g).Nodup → p ∈ nodes g → cnt [] (gSu g p k) j = cnt [] g j + if j = k then 1 else 0
  | [], _, h => by cases h
  | (y, v, su) :: r, hn, h => by
    have hn' := List.nodup_cons.mp hn
    have e0 : ∀ (su : List Int) (r : G), cnt [] ((y, v, su) :: r) j = su.count j + cnt [] r j := fun su r => by
      unfold cnt; rw [List.map_cons, List.sum_cons]; simp
    by_cases hy : y = p
    · have e1 : gSu ((y, v, su) :: r) p k = (y, v, su ++ [k]) :: r := by
        unfold gSu gUpd
        rw [List.map_cons, if_pos hy]
        congr 1
        rw [List.map_congr_left (g := id), List.map_id]
        intro q hq
        exact if_neg fun e => hn'.1 (by rw [hy, ← e]; exact List.mem_map_of_mem (f := (·.1)) hq)
      rw [e1, e0, e0, List.count_append, List.count_singleton]
      by_cases h : j = k
      · simp [h]; omega
      · have : ¬ k = j := fun q => h q.symm
        simp [h, this]
    · have e1 : gSu ((y, v, su) :: r) p k = (y, v, su) :: gSu r p k := by
        unfold gSu gUpd
        rw [List.map_cons, if_neg hy]
      have hp : p ∈ nodes r := (List.mem_cons.mp h).resolve_left fun e => hy e.symm
      rw [e1, e0, e0, su_cnt hn'.2 hp]
      omega
theorem su_suc {g : G} {p k x : Int} (hp : p ∈ nodes g) (hn : (nodes g).Nodup) : gSuc (gSu g p k) x = if x = p then gSuc g p ++ [k] else gSuc g x := by
  unfold gSuc gSu
  rw [gAt_upd, Option.map_map]
  by_cases h : x = p
  · subst h
    obtain ⟨v, hv⟩ := at_some hn hp
    rw [hv, if_pos rfl]
    simp
  · rw [if_neg h]
    congr 2
    funext y
    simp [h]
structure PB (g : G) (k : Int) (rem : Nat) : Prop where
  nd : (nodes g).Nodup
  cl : ∀ x ∈ nodes g, ∀ k ∈ gSuc g x, k ∈ nodes g
  np : ∀ p ∈ g, p.2.1 = (cnt [] g p.1 : Nat) + (if p.1 = k then (rem : Int) else 0)
theorem PB.start {g : G} {k : Int} {n : Nat} (W : WG g) : PB (gNp (gEns g k) k n) k n ∧ k ∈ nodes (gNp (gEns g k) k n) := by
  have hnn : nodes (gNp (gEns g k) k n) = nodes (gEns g k) := upd_nodes
  refine ⟨⟨by rw [hnn]; exact ens_nd W.nd, fun x hx j hj => ?_, fun p hp => ?_⟩, by rw [hnn, ens_nodes]; exact .inr rfl⟩
  · rw [np_suc, ens_suc] at hj
    rw [hnn, ens_nodes]
    exact .inl (W.cl x (gSuc_node hj) j hj)
  · rw [upd_cnt, ens_cnt]
    unfold gNp gUpd at hp
    obtain ⟨q, hq, rfl⟩ := List.mem_map.mp hp
    have hq' : q.2.1 = (cnt [] g q.1 : Nat) := by
      unfold gEns at hq
      by_cases h : k ∈ g.map (·.1)
      · rw [if_pos h] at hq; exact W.np q hq
      · rw [if_neg h] at hq
        rcases List.mem_append.mp hq with hq | hq
        · exact W.np q hq
        · rw [List.mem_singleton.mp hq]
          have : cnt [] g k = 0 := (cnt_zero W.nd).mpr fun x hx => absurd (W.cl x (gSuc_node hx) k hx) h
          show (0 : Int) = _
          rw [this]; rfl
    by_cases e : q.1 = k
    · rw [if_pos e]
      dsimp only
      rw [if_pos e, hq']
    · rw [if_neg e, if_neg e, hq', Int.add_zero]
theorem PB.pred {g : G} {k p : Int} {n : Nat} (h : PB g k (n + 1)) (hk : k ∈ nodes g) : PB (gPred k g p) k n ∧ k ∈ nodes (gPred k g p) := by
  unfold gPred
  have hp : p ∈ nodes (gEns g p) := ens_nodes.mpr (.inr rfl)
  have hn := ens_nd (k := p) h.nd
  have hnn : nodes (gSu (gEns g p) p k) = nodes (gEns g p) := upd_nodes
  have hkn : k ∈ nodes (gSu (gEns g p) p k) := by rw [hnn, ens_nodes]; exact .inl hk
  refine ⟨⟨by rw [hnn]; exact hn, fun x hx j hj => ?_, fun q hq => ?_⟩, hkn⟩
  · rw [su_suc hp hn] at hj
    have old : ∀ y, j ∈ gSuc (gEns g p) y → j ∈ nodes (gSu (gEns g p) p k) := fun y hy => by
      rw [ens_suc] at hy
      rw [hnn, ens_nodes]
      exact .inl (h.cl y (gSuc_node hy) j hy)
    split at hj
    · rcases List.mem_append.mp hj with hj | hj
      · exact old p hj
      · rw [List.mem_singleton.mp hj]; exact hkn
    · exact old x hj
  · rw [su_cnt hn hp, ens_cnt]
    unfold gSu gUpd at hq
    obtain ⟨r, hr, rfl⟩ := List.mem_map.mp hq
    have hr' : r.2.1 = (cnt [] g r.1 : Nat) + (if r.1 = k then ((n + 1 : Nat) : Int) else 0) := by
      unfold gEns at hr
      by_cases hpg : p ∈ g.map (·.1)
      · rw [if_pos hpg] at hr; exact h.np r hr
      · rw [if_neg hpg] at hr
        rcases List.mem_append.mp hr with hr | hr
        · exact h.np r hr
        · rw [List.mem_singleton.mp hr]
          have h0 : cnt [] g p = 0 := (cnt_zero h.nd).mpr fun x hx => absurd (h.cl x (gSuc_node hx) p hx) hpg
          have hne : p ≠ k := fun e => hpg (e ▸ hk)
          show (0 : Int) = _
          rw [h0, if_neg hne]; rfl
    have e1 : (if r.1 = p then (r.1, (r.2.1, r.2.2 ++ [k])) else r).1 = r.1 := by split <;> rfl
    have e2 : (if r.1 = p then (r.1, (r.2.1, r.2.2 ++ [k])) else r).2.1 = r.2.1 := by split <;> rfl
    show (if r.1 = p then (r.1, (r.2.1, r.2.2 ++ [k])) else r).2.1 = _
    rw [e2, hr']
    show _ = ((cnt [] g (if r.1 = p then (r.1, (r.2.1, r.2.2 ++ [k])) else r).1 + if (if r.1 = p then (r.1, (r.2.1, r.2.2 ++ [k])) else r).1 = k then 1 else 0 : Nat) : Int) + if (if r.1 = p then (r.1, (r.2.1, r.2.2 ++ [k])) else r).1 = k then (n : Int) else 0
    rw [e1]
    by_cases e : r.1 = k
    · rw [if_pos e, if_pos e, if_pos e]; push_cast; omega
    · rw [if_neg e, if_neg e, if_neg e]; push_cast; omega
theorem PB.all {k : Int} : ∀ (ps : List Int) {g : G}, PB g k ps.length → k ∈ nodes g → WG (ps.foldl (gPred k) g)
  | [], g, h, _ => ⟨h.nd, h.cl, fun p hp => by have := h.np p hp; rw [this]; split <;> simp⟩
  | p :: r, g, h, hk => by
    obtain ⟨h1, h2⟩ := h.pred (p := p) hk
    exact PB.all r h1 h2
theorem WG.add {g : G} {k : Int} {ps : List Int} (W : WG g) : WG (gAdd g k ps) := PB.all ps (PB.start W).1 (PB.start W).2
theorem WG.nil : WG [] := ⟨List.nodup_nil, fun x h => (by cases h), fun p h => (by cases h)⟩
theorem pred_edge {g : G} {k p j x : Int} (hn : (nodes g).Nodup) : j ∈ gSuc (gPred k g p) x ↔ j ∈ gSuc g x ∨ (j = k ∧ x = p) := by
  unfold gPred
  rw [su_suc (ens_nodes.mpr (.inr rfl)) (ens_nd hn), ens_suc, ens_suc]
  by_cases h : x = p
  · subst h
    rw [if_pos rfl, List.mem_append, List.mem_singleton]
    simp
  · rw [if_neg h]; simp [h]
theorem pred_nodes {g : G} {k p j : Int} : j ∈ nodes (gPred k g p) ↔ j ∈ nodes g ∨ j = p := by
  unfold gPred
  rw [show nodes (gSu (gEns g p) p k) = nodes (gEns g p) from upd_nodes, ens_nodes]
theorem pred_nd {g : G} {k p : Int} (hn : (nodes g).Nodup) : (nodes (gPred k g p)).Nodup := by
  unfold gPred
  rw [show nodes (gSu (gEns g p) p k) = nodes (gEns g p) from upd_nodes]
  exact ens_nd hn
theorem preds_edge {k j x : Int} : ∀ {ps : List Int} {g : G}, (nodes g).Nodup → (j ∈ gSuc (ps.foldl (gPred k) g) x ↔ j ∈ gSuc g x ∨ (j = k ∧ x ∈ ps))
  | [], g, hn => by simp
  | p :: r, g, hn => by
    rw [List.foldl_cons, preds_edge (pred_nd hn), pred_edge hn, List.mem_cons]
    constructor
    · rintro ((h | ⟨h, h'⟩) | ⟨h, h'⟩)
      · exact .inl h
      · exact .inr ⟨h, .inl h'⟩
      · exact .inr ⟨h, .inr h'⟩
    · rintro (h | ⟨h, h' | h'⟩)
      · exact .inl (.inl h)
      · exact .inl (.inr ⟨h, h'⟩)
      · exact .inr ⟨h, h'⟩
theorem preds_nodes {k j : Int} : ∀ {ps : List Int} {g : G}, j ∈ nodes (ps.foldl (gPred k) g) ↔ j ∈ nodes g ∨ j ∈ ps
  | [], g => by simp
  | p :: r, g => by
    rw [List.foldl_cons, preds_nodes, pred_nodes, List.mem_cons, or_assoc]
theorem add_edge {g : G} {k j x : Int} {ps : List Int} (hn : (nodes g).Nodup) : j ∈ gSuc (gAdd g k ps) x ↔ j ∈ gSuc g x ∨ (j = k ∧ x ∈ ps) := by
  unfold gAdd
  have hnn : nodes (gNp (gEns g k) k ps.length) = nodes (gEns g k) := upd_nodes
  rw [preds_edge (by rw [hnn]; exact ens_nd hn), np_suc, ens_suc]
theorem add_nodes {g : G} {k j : Int} {ps : List Int} : j ∈ nodes (gAdd g k ps) ↔ j ∈ nodes g ∨ j = k ∨ j ∈ ps := by
  unfold gAdd
  rw [preds_nodes, show nodes (gNp (gEns g k) k ps.length) = nodes (gEns g k) from upd_nodes, ens_nodes, or_assoc]
theorem build_from : ∀ (kl : List (Int × List Int)) {g : G}, WG g → WG (kl.foldl (fun g p => gAdd g p.1 p.2) g) ∧
    (∀ j x, j ∈ gSuc (kl.foldl (fun g p => gAdd g p.1 p.2) g) x ↔ j ∈ gSuc g x ∨ ∃ p ∈ kl, j = p.1 ∧ x ∈ p.2) ∧
    (∀ j, j ∈ nodes (kl.foldl (fun g p => gAdd g p.1 p.2) g) ↔ j ∈ nodes g ∨ ∃ p ∈ kl, j = p.1 ∨ j ∈ p.2)
  | [], g, W => ⟨W, fun j x => by simp, fun j => by simp⟩
  | q :: r, g, W => by
    obtain ⟨h1, h2, h3⟩ := build_from r (W.add (k := q.1) (ps := q.2))
    rw [List.foldl_cons]
    refine ⟨h1, fun j x => ?_, fun j => ?_⟩
    · rw [h2, add_edge W.nd]
      simp only [List.mem_cons]
      constructor
      · rintro ((h | h) | ⟨p, hp, h⟩)
        · exact .inl h
        · exact .inr ⟨q, .inl rfl, h⟩
        · exact .inr ⟨p, .inr hp, h⟩
      · rintro (h | ⟨p, rfl | hp, h⟩)
        · exact .inl (.inl h)
        · exact .inl (.inr h)
        · exact .inr ⟨p, hp, h⟩
    · rw [h3, add_nodes]
      simp only [List.mem_cons]
      constructor
      · rintro ((h | h) | ⟨p, hp, h⟩)
        · exact .inl h
        · exact .inr ⟨q, .inl rfl, h⟩
        · exact .inr ⟨p, .inr hp, h⟩
      · rintro (h | ⟨p, rfl | hp, h⟩)
        · exact .inl (.inl h)
        · exact .inl (.inr h)
        · exact .inr ⟨p, hp, h⟩
theorem build_W (kl : List (Int × List Int)) : WG (gBuild kl) := (build_from kl WG.nil).1
theorem build_edge (kl : List (Int × List Int)) {j x : Int} : j ∈ gSuc (gBuild kl) x ↔ ∃ p ∈ kl, j = p.1 ∧ x ∈ p.2 := by
  have := (build_from kl WG.nil).2.1 j x
  unfold gBuild
  rw [this]
  constructor
  · rintro (h | h)
    · cases h
    · exact h
  · exact .inr
theorem build_nodes (kl : List (Int × List Int)) {j : Int} : j ∈ nodes (gBuild kl) ↔ ∃ p ∈ kl, j = p.1 ∨ j ∈ p.2 := by
  have := (build_from kl WG.nil).2.2 j
  unfold gBuild
  rw [this]
  constructor
  · rintro (h | h)
    · cases h
    · exact h
  · exact .inr

/-! ### rings, and sets that hold themselves up -/
theorem fin_no {g : G} {F : List Int} (h : Fin' g F) (hn : (nodes g).Nodup) {S : List Int} (hS : SelfSup g S) : ∀ k, k ∉ S := by
  have key : ∀ (n i : Nat) (k : Int), F.length ≤ i + n → F[i]? = some k → k ∉ S := by
    intro n
    induction n with
    | zero => intro i k hle hi; have := (List.getElem?_eq_some_iff.mp hi).1; omega
    | succ n ih =>
      intro i k hle hi hk
      obtain ⟨x, hx, hkx⟩ := hS k hk
      obtain ⟨j, hj⟩ := List.getElem?_of_mem (h.all x (gSuc_node hkx))
      have := h.succ j x hj k hkx
      obtain ⟨i', hi'⟩ := List.getElem?_of_mem this
      have hlt := (List.getElem?_eq_some_iff.mp hi').1
      rw [List.length_take] at hlt
      rw [List.getElem?_take_of_lt (Nat.lt_of_lt_of_le hlt (Nat.min_le_left _ _))] at hi'
      have he : i' = i := by
        have h1 := (List.getElem?_eq_some_iff.mp hi')
        have h2 := (List.getElem?_eq_some_iff.mp hi)
        obtain ⟨l1, e1⟩ := h1
        obtain ⟨l2, e2⟩ := h2
        exact (List.getElem_inj h.nodup).mp (e1.trans e2.symm)
      exact ih j x (Nat.le_trans hle (by rw [← he, Nat.add_succ, ← Nat.succ_add]; exact Nat.add_le_add_right (Nat.lt_of_lt_of_le hlt (Nat.min_le_left _ _)) n)) hj hx
  intro k hk
  obtain ⟨x, hx, hkx⟩ := hS k hk
  obtain ⟨j, hj⟩ := List.getElem?_of_mem (h.all x (gSuc_node hkx))
  exact key F.length j x (Nat.le_add_left _ _) hj hx
theorem chain_pred {g : G} : ∀ {v : List Int}, Chain' g v → ∀ k ∈ v.tail, ∃ x ∈ v, k ∈ gSuc g x
  | [], _, k, h => by cases h
  | [a], _, k, h => by cases h
  | a :: b :: r, hc, k, h => by
    rcases List.mem_cons.mp h with rfl | h
    · exact ⟨a, List.mem_cons_self, hc.1⟩
    · obtain ⟨x, hx, hk⟩ := chain_pred hc.2 k h
      exact ⟨x, List.mem_cons_of_mem _ hx, hk⟩
theorem ring_sup {g : G} {v : List Int} (h : Ring g v) : SelfSup g v ∧ v ≠ [] := by
  obtain ⟨a, r, rfl, hc⟩ := h
  refine ⟨fun k hk => ?_, by simp⟩
  refine chain_pred hc k ?_
  rcases List.mem_cons.mp (List.cons_append ▸ hk : k ∈ a :: (r ++ [a])) with rfl | hk
  · exact List.mem_append_right _ (List.mem_singleton.mpr rfl)
  · exact hk

/-! ### what is left -/
theorem nodup_all {as bs : List Int} (hn : as.Nodup) (hs : ∀ x ∈ as, x ∈ bs) (hl : bs.length ≤ as.length) : ∀ x ∈ bs, x ∈ as := by
  induction as generalizing bs with
  | nil => intro x hx; cases bs with | nil => cases hx | cons b r => simp at hl
  | cons a r ih =>
    intro x hx
    have hn' := List.nodup_cons.mp hn
    have ha := hs a List.mem_cons_self
    by_cases e : x = a
    · rw [e]; exact List.mem_cons_self
    · refine List.mem_cons_of_mem _ (ih (bs := bs.erase a) hn'.2 (fun y hy => ?_) ?_ x ((List.mem_erase_of_ne e).mpr hx))
      · have hya : y ≠ a := fun q => hn'.1 (q ▸ hy)
        exact (List.mem_erase_of_ne hya).mpr (hs y (List.mem_cons_of_mem _ hy))
      · rw [List.length_erase_of_mem ha]
        rw [List.length_cons] at hl
        omega
structure Left (g : G) (D : List Int) : Prop where
  inG : ∀ k ∈ D, k ∈ nodes g
  no : ∀ S, SelfSup g S → ∀ k ∈ D, k ∉ S
  up : ∀ k ∈ nodes g, k ∉ D → ∃ x, x ∈ nodes g ∧ x ∉ D ∧ k ∈ gSuc g x
theorem Rnd.left {g₀ g : G} {D L : List Int} (W : WG g₀) (h : Rnd g₀ D D L g) (hD : D.Nodup) (he : L = [] ∨ (nodes g₀).length ≤ D.length) : Left g₀ D := by
  refine ⟨h.inG, h.no, fun k hk hkD => ?_⟩
  rcases he with rfl | he
  · have : cnt D g₀ k ≠ 0 := fun hz => by
      have := (h.rd k).mpr ⟨hk, hkD, hz⟩
      cases this
    rw [Ne, cnt_zero W.nd] at this
    simp only [Classical.not_forall] at this
    obtain ⟨x, hx, hxD⟩ := this
    exact ⟨x, gSuc_node hx, hxD, hx⟩
  · exact absurd (nodup_all hD h.inG he k hk) hkD
theorem Left.sup {g : G} {D : List Int} (h : Left g D) : SelfSup g ((nodes g).filter fun k => decide (k ∉ D)) := fun k hk => by
  obtain ⟨h1, h2⟩ := List.mem_filter.mp hk
  obtain ⟨x, hx, hxD, hkx⟩ := h.up k h1 (of_decide_eq_true h2)
  exact ⟨x, List.mem_filter.mpr ⟨hx, decide_eq_true hxD⟩, hkx⟩
theorem Left.of_fin {g : G} {D F : List Int} (h : Left g D) (hn : (nodes g).Nodup) (hF : Fin' g F) : ∀ k ∈ nodes g, k ∈ D := fun k hk => by
  by_cases hd : k ∈ D
  · exact hd
  · exact absurd (List.mem_filter.mpr ⟨hk, decide_eq_true hd⟩) (fin_no hF hn h.sup k)
theorem Left.of_ring {g : G} {D v : List Int} (h : Left g D) (hv : Ring g v) : ∃ k ∈ nodes g, k ∉ D := by
  obtain ⟨h1, h2⟩ := ring_sup hv
  obtain ⟨k, hk⟩ := List.exists_mem_of_ne_nil _ h2
  obtain ⟨x, hx, hkx⟩ := h1 k hk
  exact ⟨x, gSuc_node hkx, fun hd => h.no v h1 x hd hx⟩
theorem rnd_nodup {D L : List Int} {g₀ g : G} (h : Rnd g₀ D D L g) (hD : D.Nodup) : (D ++ L).Nodup := by
  rw [List.nodup_append]
  refine ⟨hD, h.nd, fun a ha b hb e => ?_⟩
  subst e
  exact ((h.rd a).mp hb).2.1 ha
end Mine

namespace Mine
open PySem PySem.W PyProof.Rows

/-! ### tables: a row for each key -/
noncomputable def Tab (kl : List (Int × Addr × List Int)) (ks : List Int) (f : Int → List Int) : Prop := kl.map (fun p => (p.1, p.2.2)) = ks.map (fun y => (y, f y))
theorem Tab.keys {kl : List (Int × Addr × List Int)} {ks : List Int} {f : Int → List Int} (h : Tab kl ks f) : kl.map (·.1) = ks := by
  have := congrArg (List.map (·.1)) h
  rw [List.map_map, List.map_map] at this
  rw [show ks = ks.map id from (List.map_id _).symm]
  exact this
theorem Tab.at {kl : List (Int × Addr × List Int)} {ks : List Int} {f : Int → List Int} (h : Tab kl ks f) {y : Int} (hy : y ∈ ks) : ∃ l, (y, l, f y) ∈ kl := by
  have : (y, f y) ∈ kl.map (fun p => (p.1, p.2.2)) := by rw [h]; exact List.mem_map.mpr ⟨y, hy, rfl⟩
  obtain ⟨⟨k, l, r⟩, hp, e⟩ := List.mem_map.mp this
  obtain ⟨e1, e2⟩ := Prod.mk.inj e
  dsimp only at e1 e2
  subst e1 e2
  exact ⟨l, hp⟩
theorem Tab.len {kl : List (Int × Addr × List Int)} {ks : List Int} {f : Int → List Int} (h : Tab kl ks f) : kl.length = ks.length := by
  have := congrArg List.length h
  rwa [List.length_map, List.length_map] at this
theorem DL.row {H : AH} {d : Addr} {kl : List (Int × Addr × List Int)} {ks : List Int} {f : Int → List Int} (h : DL H d kl) (t : Tab kl ks f) (hn : ks.Nodup) {y : Int} (hy : y ∈ ks) : ∃ l, dval (kvL kl) y = some (.ref l) ∧ (l, AO.list (iv (f y))) ∈ H := by
  obtain ⟨l, hl⟩ := t.at hy
  exact ⟨l, dval_kvL (p := (y, l, f y)) (by rw [t.keys]; exact hn) hl, h.2 _ hl⟩
theorem DL.keyVals {kl : List (Int × Addr × List Int)} {ks : List Int} {f : Int → List Int} (t : Tab kl ks f) : (kvL kl).map (fun kv => vI kv.1) = iv ks := by
  unfold kvL iv
  rw [List.map_map, ← t.keys, List.map_map]
  rfl
section
variable {C : Cfg} {A : Around} {fx : Fx} {m : Lo} {H : AH} {X : Value → Lo → AH → Prop}
theorem itr_tab {d : Addr} {kl : List (Int × Addr × List Int)} {ep : Nat} {ks : List Int} {f : Int → List Int} (hA : A.handled = none) (h : (d, AO.dict (kvL kl) ep) ∈ H) (t : Tab kl ks f) : ITR C A fx (.ref d) m H (iv ks) (fun H => (d, AO.dict (kvL kl) ep) ∈ H) := by
  have := itr_keys (C := C) (fx := fx) (m := m) hA h
  rw [DL.keyVals t] at this
  exact this
theorem sub_dl {e i : PySem.Expr} {d : Addr} {kl : List (Int × Addr × List Int)} {ks : List Int} {f : Int → List Int} {y : Int} {Q : Value → Lo → AH → Prop} (h : DL H d kl) (t : Tab kl ks f) (hn : ks.Nodup) (hy : y ∈ ks) (hQ : ∀ l, (l, AO.list (iv (f y))) ∈ H → Q (.ref l) m H)
    (hs : ∀ t, subscripted i false (.ref d) (.int y t) = operate [.ref d, .int y t] (getItem (.ref d) (.int y t)) := by intro _; rfl) : SUB C A fx e i (.ref d) (vI y) m H Q X := by
  obtain ⟨l, h1, h2⟩ := h.row t hn hy
  obtain ⟨ep, h3⟩ := h.1
  exact sub_dict h3 h1 (hQ l h2) hs
end
end Mine

namespace Mine
open PySem PySem.W PyProof.Rows
open Sem (wp)

section
variable {α : Type} {C : Cfg} {A A' : Around} {fx fx' : Fx} {m m' m₁ : Lo} {H H' H₁ : AH} {X : Value → Lo → AH → Prop} {K : Frag} {s s' s₁ : Shared}

/-! ### a comprehension of two clauses -/
theorem bits_small {k : Nat} (h : k < 2 ^ 60) : Builtin.Int.intBits (k : Int) ≤ 64 := by
  unfold Builtin.Int.intBits
  split
  · omega
  · rename_i hk
    have hk' : k ≠ 0 := fun e => hk (by rw [e]; rfl)
    have : (k : Int).natAbs.log2 < 60 := (Nat.log2_lt (by simpa using hk')).mpr (by simpa using h)
    omega
theorem bits_small' {k : Int} (h0 : 0 ≤ k) (h : k < 2 ^ 60) : Builtin.Int.intBits k ≤ 64 := by
  obtain ⟨n, rfl⟩ := Int.eq_ofNat_of_zero_le h0
  exact bits_small (by omega)
theorem si_nodup {x i y : Value} {Q : Lo → AH → Prop} {X : Value → Lo → AH → Prop} (h : H.keys.Nodup → SI C A fx x i y m H Q X) : SI C A fx x i y m H Q X := fun a b c ha hb hc s S => h S.nodup a b c ha hb hc s S
theorem put_at1 {p : Addr × AO} {Y : AH} {a : Addr} {o o' : AO} (hn : (AH.keys (p :: (a, o') :: Y)).Nodup) : AH.put (p :: (a, o') :: Y) a o = p :: (a, o) :: Y := put_mid (X := [p]) hn
theorem put_at0 {Y : AH} {a : Addr} {o o' : AO} (hn : (AH.keys ((a, o') :: Y)).Nodup) : AH.put ((a, o') :: Y) a o = (a, o) :: Y := put_mid (X := []) hn
theorem wk_row {a : Addr} {o : AO} {p : Addr × AO} {L H : AH} : Wk ((a, o) :: p :: (L ++ H)) (p :: ((L ++ [(a, o)]) ++ H)) := by
  refine Wk.swap.trans (Wk.keep (Wk.perm ?_))
  rw [List.append_assoc]
  exact (List.perm_middle (l₁ := L)).symm
theorem rngV_iv (n : Nat) : rngV n = ((List.range n).map fun i : Nat => (i : Int)).map vI := by
  unfold rngV; rw [List.map_map]; rfl
noncomputable def upto (n : Nat) : List Int := (List.range n).map fun i : Nat => (i : Int)
theorem upto_mem {n : Nat} {x : Int} : x ∈ upto n ↔ 0 ≤ x ∧ x < n := by
  unfold upto
  rw [List.mem_map]
  constructor
  · rintro ⟨i, hi, rfl⟩
    rw [List.mem_range] at hi
    omega
  · rintro ⟨h1, h2⟩
    exact ⟨x.toNat, List.mem_range.mpr (by omega), by omega⟩
theorem upto_len {n : Nat} : (upto n).length = n := by unfold upto; rw [List.length_map, List.length_range]
theorem upto_nd {n : Nat} : (upto n).Nodup := by
  unfold upto
  exact List.Pairwise.map _ (fun a b h e => h (by omega)) List.nodup_range
theorem itr_upto {r : Addr} {n : Nat} (hA : A.handled = none) (hn : n < 2 ^ 31) (hr : (r, AO.flds (.type "range") [vI 0, vI n, vI 1]) ∈ H) : ITR C A fx (.ref r) m H ((upto n).map vI) (fun _ => True) := by
  have := itr_range (C := C) (fx := fx) (m := m) hA hn hr
  rw [rngV_iv] at this
  exact this
end
end Mine

namespace Mine
open PySem PySem.W PyProof.Rows

/-! ### sets that hold themselves up, by rows -/
theorem rising_eq : ∀ {as bs : List Int}, as.Pairwise (· ≤ ·) → bs.Pairwise (· ≤ ·) → (∀ x, as.count x = bs.count x) → as = bs
  | [], [], _, _, _ => rfl
  | [], b :: r, _, _, h => by have := h b; simp at this
  | a :: r, [], _, _, h => by have := h a; simp at this
  | a :: r, b :: q, h1, h2, h => by
    have h1' := List.pairwise_cons.mp h1
    have h2' := List.pairwise_cons.mp h2
    have hab : a = b := by
      have ha : a ∈ b :: q := List.count_pos_iff.mp (by rw [← h a]; simp)
      have hb : b ∈ a :: r := List.count_pos_iff.mp (by rw [h b]; simp)
      rcases List.mem_cons.mp ha with e | ha
      · exact e
      · rcases List.mem_cons.mp hb with e | hb
        · exact e.symm
        · exact Int.le_antisymm (h1'.1 b hb) (h2'.1 a ha)
    subst hab
    congr 1
    refine rising_eq h1'.2 h2'.2 fun x => ?_
    have := h x
    rw [List.count_cons, List.count_cons] at this
    omega
theorem nd_count {x : Int} : ∀ {as : List Int}, as.Nodup → x ∈ as → as.count x = 1
  | [], _, h => by cases h
  | a :: r, hn, h => by
    have hn' := List.nodup_cons.mp hn
    rw [List.count_cons]
    by_cases e : a = x
    · subst e
      rw [List.count_eq_zero.mpr hn'.1]; simp
    · have hx := (List.mem_cons.mp h).resolve_left fun q => e q.symm
      rw [nd_count hn'.2 hx]
      simp [e]
theorem rising_mem {as bs : List Int} (h1 : as.Pairwise (· ≤ ·)) (h2 : bs.Pairwise (· ≤ ·)) (n1 : as.Nodup) (n2 : bs.Nodup) (h : ∀ x, x ∈ as ↔ x ∈ bs) : as = bs := by
  refine rising_eq h1 h2 fun x => ?_
  by_cases hx : x ∈ as
  · rw [nd_count n1 hx, nd_count n2 ((h x).mp hx)]
  · rw [List.count_eq_zero.mpr hx, List.count_eq_zero.mpr fun hb => hx ((h x).mpr hb)]
theorem upto_le {n : Nat} : (upto n).Pairwise (· ≤ ·) := by
  unfold upto
  exact List.Pairwise.map _ (fun a b h => by omega) (List.pairwise_lt_range)
theorem nd_len {as bs : List Int} (hn : as.Nodup) (hs : ∀ x ∈ as, x ∈ bs) : as.length ≤ bs.length := by
  rcases Nat.lt_or_ge bs.length as.length with h | h
  · have hall := nodup_all (as := as.take bs.length) (bs := bs) (hn.sublist (List.take_sublist _ _)) (fun x hx => hs x (List.mem_of_mem_take hx)) (by rw [List.length_take]; omega)
    have hx := List.getElem?_eq_getElem h
    have h1 := take_fresh hx id (by rw [List.map_id]; exact hn)
    rw [List.map_id] at h1
    exact absurd (hall _ (hs _ (List.getElem_mem h))) h1
  · exact h
end Mine

namespace Mine
open PySem PySem.W PyProof.Rows

/-! ### the sorter of a table -/
noncomputable def gTab (ks : List Int) (f : Int → List Int) : G := gBuild (ks.map fun y => (y, f y))
theorem gTab_edge {ks : List Int} {f : Int → List Int} {j x : Int} : j ∈ gSuc (gTab ks f) x ↔ j ∈ ks ∧ x ∈ f j := by
  unfold gTab
  rw [build_edge]
  constructor
  · rintro ⟨p, hp, rfl, hx⟩
    obtain ⟨y, hy, rfl⟩ := List.mem_map.mp hp
    exact ⟨hy, hx⟩
  · rintro ⟨h1, h2⟩
    exact ⟨(j, f j), List.mem_map.mpr ⟨j, h1, rfl⟩, rfl, h2⟩
theorem gTab_nodes {ks : List Int} {f : Int → List Int} (hcl : ∀ y ∈ ks, ∀ x ∈ f y, x ∈ ks) {j : Int} : j ∈ nodes (gTab ks f) ↔ j ∈ ks := by
  unfold gTab
  rw [build_nodes]
  constructor
  · rintro ⟨p, hp, h⟩
    obtain ⟨y, hy, rfl⟩ := List.mem_map.mp hp
    rcases h with rfl | h
    · exact hy
    · exact hcl y hy j h
  · exact fun h => ⟨(j, f j), List.mem_map.mpr ⟨j, h, rfl⟩, .inl rfl⟩
theorem gTab_W (ks : List Int) (f : Int → List Int) : WG (gTab ks f) := build_W _
theorem gTab_len {ks : List Int} {f : Int → List Int} (hn : ks.Nodup) (hcl : ∀ y ∈ ks, ∀ x ∈ f y, x ∈ ks) : (nodes (gTab ks f)).length = ks.length :=
  Nat.le_antisymm (nd_len (gTab_W ks f).nd fun x hx => (gTab_nodes hcl).mp hx) (nd_len hn fun x hx => (gTab_nodes hcl).mpr hx)
theorem turn_len {D L : List Int} {i : Nat} (h : L = [] ∨ i ≤ D.length) (L' : List Int) (h0 : L = [] → L' = []) : L' = [] ∨ i + 1 ≤ (D ++ L).length := by
  rcases h with rfl | h
  · exact .inl (h0 rfl)
  · by_cases hl : L = []
    · exact .inl (h0 hl)
    · refine .inr ?_
      rw [List.length_append]
      have := List.length_pos_iff.mpr hl
      omega
theorem bd_with {g : G} {f : Int → Int} {b : Nat} (h : Bd g b) : Bd (gWith g f) b := by
  unfold gWith
  refine ⟨by rw [List.length_map]; exact h.len, fun p hp => ?_⟩
  obtain ⟨q, hq, rfl⟩ := List.mem_map.mp hp
  exact h.su q hq
theorem clo_of {g₀ g : G} (W : WG g₀) (hn : nodes g = nodes g₀) (hs : ∀ k, gSuc g k = gSuc g₀ k) : ∀ k x, gAt g k = some x → ∀ s ∈ x.2, s ∈ g.map (·.1) := fun k x hx s hsx => by
  have hk : k ∈ nodes g₀ := by rw [← hn]; exact List.mem_map_of_mem (f := (·.1)) (mem_gAt hx)
  show s ∈ nodes g
  rw [hn]
  refine W.cl k hk s ?_
  rw [← hs]
  unfold gSuc
  rw [hx]; exact hsx
section
variable {C : Cfg} {A : Around} {fx : Fx} {m : Lo} {H : AH} {X : Value → Lo → AH → Prop}
theorem gm_wk {x : Value} {n : PySem.Str} {H' : AH} {Q : Value → List Value → Lo → AH → Prop} (hH : Wk H H') (h : GM C A fx x n m H' Q X) : GM C A fx x n m H Q X := fun a pl ha => aw_wk WkL.refl hH (h a pl ha)
theorem ga_wk {x : Value} {n : PySem.Str} {H' : AH} {Q : Value → Lo → AH → Prop} (hH : Wk H H') (h : GA C A fx x n m H' Q X) : GA C A fx x n m H Q X := fun a ha => aw_wk WkL.refl hH (h a ha)
theorem sw_eq {sc : Scope} {ts : List PySem.Expr} {e : PySem.Expr} (hsc : fx.env.scope = sc) : swappedStores ts e fx.env = swappedStores ts e { fx.env with scope := sc } := by subst hsc; rfl
end
theorem wk_mid {p : Addr × AO} {S H : AH} : Wk (p :: (S ++ H)) (S ++ p :: H) := Wk.perm (List.perm_middle (l₁ := S)).symm
end Mine

namespace Mine

/-! ### law 3, plain -/
section
variable {ks : List Int} {f : Int → List Int} {A B : List Int}
end
end Mine

namespace Mine
open PySem PySem.W PyProof.Rows
open Sem (wp)

/-! ### a list that stood before -/
noncomputable def BL (C : Cfg) (l : Addr) (xs : List Value) : Prop := ∃ vs : Array Value, C.h₀.IsList l vs ∧ vs.toList.map er = xs
section
variable {α : Type} {C : Cfg} {A A' : Around} {fx fx' : Fx} {m m' m₁ : Lo} {H H' H₁ : AH} {X : Value → Lo → AH → Prop} {K : Frag} {s s' s₁ : Shared}
theorem BL.list {l : Addr} {xs : List Value} (h : BL C l xs) (S : St C A fx m H s) : ∃ vs : Array Value, s.heap.IsList l vs ∧ vs.toList.map er = xs := by
  obtain ⟨vs, ⟨o, ho, hc, n, hd⟩, e⟩ := h
  exact ⟨vs, ⟨o, S.base _ _ ho, hc, n, hd⟩, e⟩
theorem itr_base {l : Addr} {xs : List Value} (hA : A.handled = none) (hl : BL C l xs) : ITR C A fx (.ref l) m H xs (fun _ => True) := fun a ha s Q E S q => by
  obtain rfl := er_eq_ref ha
  obtain ⟨vs, h1, h2⟩ := hl.list S
  refine wpAny_pyIter_list h1 (q s.heap.objs.size _ s.toks (fun i h => h.IsListIter s.heap.objs.size l i) ⟨?_, ?_, ?_, ?_, ?_⟩ (none_of_le (Nat.le_refl _)) (S.low_lt S.base) ⟨_, Heap.get?_push_size _ rfl, rfl, rfl⟩ fun b o e => Heap.get?_push_of_some _ e)
  · rintro i h h' ⟨o, ho, r⟩ k; exact ⟨o, k o ho, r⟩
  · rintro i h ⟨o, ho, _⟩; exact ⟨o, ho⟩
  · intro i v fx m H s Q E hv hP S hI hp q
    obtain ⟨vs, h1, h2⟩ := hl.list S
    obtain ⟨r, e1, e2⟩ := er_get h2 hv
    exact wpAny_pyNext_list_item hp h1 e1 fun h' hit hs => q r h' s.toks e2 hit fun b o hb e => (hs.2 b hb).trans e
  · intro fx m H s Q E hP S hI hp q
    obtain ⟨vs, h1, h2⟩ := hl.list S
    refine wpAny_pyNext_list_end hA hp h1 (Array.getElem?_eq_none_iff.mpr (by have := size_of_er h2; omega)) fun h' hs => q h' s.toks fun b o hb e => hs b o hb e
  · intro i s Q E hp q; exact wpAny_pyIter_listiter hp q
theorem ev_subslice_b {r : Addr} {xs : List Value} (hb : BL C r xs) {e : PySem.Expr} {lo hi st : Option PySem.Expr} {p pos : Pos} {Q : Value → Lo → AH → Prop}
    (h : EV C A fx e m H (fun x m₁ H₁ => EP C A fx lo m₁ H₁ (fun l m₂ H₂ => EP C A fx hi m₂ H₂ (fun u m₃ H₃ => EP C A fx st m₃ H₃ (fun k m₄ H₄ =>
      ∃ l' u' k', x = .ref r ∧ l = partV l' ∧ u = partV u' ∧ k = partV k' ∧ k' ≠ some 0 ∧ xs.length ≤ 1000000 ∧ ∀ a, a ∉ H₄.keys → Q (.ref a) m₄ ((a, AO.list (pickL xs l' u' k')) :: H₄)) X) X) X) X)
    (hs : ∀ x i, ∃ ops, subscripted (.Slice lo hi st p) false x i = operate ops (getItem x i)) :
    EV C A fx (.Subscript e (.Slice lo hi st p) pos) m H Q X := by
  show AW C A fx (eval _ _) m H _ X
  rw [eval_Subscript]
  refine aw_bind (aw_mono h (fun o m₁ H₁ h₁ => aw_bind (aw_holding ?_)) fun _ _ _ x => x)
  rw [arm_eval_Slice]
  refine aw_bind (aw_mono h₁ (fun l m₂ H₂ h₂ => aw_bind (aw_holding (aw_mono h₂ (fun u m₃ H₃ h₃ => aw_bind (aw_holding (aw_mono h₃ (fun k m₄ H₄ h₄ => ?_) fun _ _ _ x => x))) fun _ _ _ x => x))) fun _ _ _ x => x)
  obtain ⟨l', u', k', e0, e2, e3, e4, e5, e6, hq⟩ := h₄
  obtain rfl := er_eq_ref e0
  refine aw_newFields (by simp) fun a ha => aw_bind (aw_standAt ?_)
  obtain ⟨ops, hops⟩ := hs (.ref r) (.ref a)
  refine aw_forget ?_
  intro s S
  obtain ⟨vs, h1, h2⟩ := hb.list S
  obtain ⟨o, ho, c1, c2, ws, c3, c4⟩ := S.get (List.mem_cons_self)
  obtain ⟨l₁, ws⟩ : ∃ l, ws = l.toArray := ⟨ws.toList, rfl⟩
  subst ws
  obtain ⟨a1, a2, a3, e1', f1, f2, f3⟩ : ∃ a1 a2 a3, l₁ = [a1, a2, a3] ∧ er a1 = er l ∧ er a2 = er u ∧ er a3 = er k := by
    rcases l₁ with _ | ⟨a1, _ | ⟨a2, _ | ⟨a3, _ | ⟨a4, l₁⟩⟩⟩⟩
    · simp at c4
    · simp at c4
    · simp at c4
    · simp at c4; exact ⟨a1, a2, a3, rfl, c4.1, c4.2.1, c4.2.2⟩
    · simp at c4
  subst e1'
  have hsl : s.heap.IsSliceOf a a1 a2 a3 := ⟨o, ho, c1, c3⟩
  refine tail_any h1.typeIs slot_list_getitem.lookup (wpAny_getItem_list_slice h1 hsl (isPart_of (f1.trans e2)) (isPart_of (f2.trans e3)) (isPart_of (f3.trans e4)) e5 ?_ (by rw [size_of_er h2, sizeLine_eq]; omega)) hops
  obtain ⟨S₂, E₂⟩ := S.push (o := { cls := .type "list", data := .seq (slicePick vs l' u' k') }) (ao := .list (pickL xs l' u' k')) ⟨rfl, ⟨rfl, rfl⟩, _, _, rfl, by
    rw [slicePick_map]; unfold pickL; rw [← h2]; exact congrArg (fun q => (slicePick q l' u' k').toList) (Array.toList_inj.mp (by simp))⟩
  refine ⟨m₄, _, S₂, E₂, _, List.Sublist.cons_cons _ (List.Sublist.cons _ (List.Sublist.refl _)), hq _ fun hm => ?_⟩
  exact Nat.lt_irrefl _ (S.key_lt (List.mem_cons_of_mem _ hm))

theorem BL.nm {l : Addr} {ns : List Int} (h : BL C l (iv ns)) : ∃ l' ns', l' = l ∧ ns' = ns := ⟨_, _, rfl, rfl⟩
theorem pick_len {xs : List Value} {a b : Int} (ha : 0 ≤ a) (hb : 0 ≤ b) : (pickL xs (some a) (some b) none).length ≤ b.toNat - a.toNat := by
  unfold pickL
  rw [kms_pick_eq]
  show (kms_pick xs (some a) (some b)).length ≤ _
  unfold kms_pick kms_lo kms_hi
  dsimp only
  rw [if_neg (Int.not_lt.mpr ha), if_neg (Int.not_lt.mpr hb), List.length_take, List.length_drop]
  refine Nat.le_trans (Nat.min_le_left _ _) ?_
  rcases Nat.le_total a.toNat xs.length with h | h
  · rw [Nat.min_eq_left h]; exact Nat.sub_le_sub_right (Nat.min_le_left _ _) _
  · rw [Nat.min_eq_right h, Nat.sub_eq_zero_of_le (Nat.min_le_right _ _)]; exact Nat.zero_le _
/-! ### the first call -/
theorem enter_top {prog : Program} {w : World} {fd : FuncData} {f : Addr} {binds : List (PySem.Str × Value)} {env : Env} (low : (∃ o, s.heap.get? mainGlobals = some o) ∧ ∃ o, s.heap.get? sysModules = some o) (hA : A.frames = some []) (hgens : AllBare s.gens)
    (hb : BindOk fd binds) (hk : fd.scope.kind = .function) (hg : fd.globals = mainGlobals) (hbi : fd.builtins = builtinsNs)
    (he : env = newEnv fd.scope s.heap.objs.size fd.globals (cellsFrom (s.heap.objs.size + 1) fd.scope.names []) (fd.qualname ++ ".<locals>.") (some f) fd.code none fd.builtins)
    (x : InCallC s env.locals (bindL env.kindOf binds fun _ => none) env.cells (bindC env.kindOf binds fun _ => none) s') :
    let fx' : Fx := ⟨env, env.locals :: env.cells.filterMap fun p => env.cells.lookup p.1⟩
    St ⟨prog, w, s.heap, s.os⟩ (A.deeper env) fx' (erB binds) [] s' ∧ FxIs fx' fd f := by
  intro fx'
  have hL : env.locals = s.heap.objs.size := by rw [he]; rfl
  have hkd : ∀ y, env.kindOf y = fd.scope.names.lookup y := fun y => by rw [he]; rfl
  have hcs : env.cells = cellsFrom (s.heap.objs.size + 1) fd.scope.names [] := by rw [he]; rfl
  have keep := x.toInCall.keep
  obtain ⟨h', tk, hs', _⟩ := x.done
  have hW : ∀ b ∈ fx'.W, s.heap.objs.size ≤ b := fun b hb => by
    rcases List.mem_cons.mp hb with rfl | hb
    · exact x.toInCall.fresh
    · obtain ⟨p, hp, e⟩ := List.mem_filterMap.mp hb
      exact Nat.le_of_lt (Nat.lt_of_le_of_lt x.toInCall.fresh (x.above p.1 b (mem_of_lookup e)))
  have none' : ∀ b, s.heap.objs.size ≤ b → s.heap.get? b = none := fun b hb => none_of_le hb
  have hcell : ∀ y c, env.cells.lookup y = some c → c ∈ fx'.W := fun y c e => List.mem_cons_of_mem _ (List.mem_filterMap.mpr ⟨_, mem_of_lookup e, e⟩)
  refine ⟨⟨fun b o e => keep b o e, fun p hp => (by cases hp), low, fun b hb => ?_, List.nodup_nil, fun b _ h => (by cases h), (congrArg (fun e : Env => e.scope.kind) he).trans hk, ⟨(congrArg Env.globals he).trans hg, (congrArg Env.builtins he).trans hbi⟩, List.mem_cons_self,
    fun b hb => ?_, ⟨_, x.toInCall.ns⟩, fun y hy => ?_, fun y c e => ?_, fun y z c e1 e2 => name_of_addr x.apart (mem_of_lookup e1) (mem_of_lookup e2), fun y v hv => ?_, ?_, fun b _ h => (by cases h), ?_, ?_⟩, ⟨congrArg Env.scope he, congrArg Env.code he, congrArg Env.func he, (congrArg Env.frame he).trans (congrArg some hL.symm), congrArg Env.qual he, hcell⟩⟩
  · rcases hb with hb | hb
    · cases hb
    · exact none' b (hW b hb)
  · rcases List.mem_cons.mp hb with rfl | hb
    · obtain ⟨o, _, _, e, _⟩ := x.toInCall.ns; exact ⟨o, e⟩
    · obtain ⟨p, hp, e⟩ := List.mem_filterMap.mp hb
      obtain ⟨o, e, _⟩ := x.cell _ _ e
      exact ⟨o, e⟩
  · rw [hkd] at hy
    obtain ⟨c, hc⟩ := cellsFrom_some (n := s.heap.objs.size + 1) hy
    exact ⟨c, by rw [hcs]; exact hc⟩
  · exact ⟨⟨_, x.cell y c e⟩, fun h => (by cases h), none' c (hW c (hcell y c e)), Nat.ne_of_gt (x.above y c (mem_of_lookup e))⟩
  · obtain ⟨p, hp, e⟩ := List.mem_map.mp hv
    cases e
    rcases hb.kinds p hp with h | h
    · exact .inl ⟨(hkd _).trans h, _, _, x.toInCall.ns, bindL_get hb.nodup hp ((hkd _).trans h), rfl⟩
    · obtain ⟨c, hc⟩ := cellsFrom_some (n := s.heap.objs.size + 1) h
      rw [← hcs] at hc
      exact .inr ⟨.inl ((hkd _).trans h), c, p.2, hc, by have := x.cell _ _ hc; rwa [bindC_get hb.nodup hp ((hkd _).trans h)] at this, rfl⟩
  · exact ⟨env :: [], Around.frames_deeper hA, Heap.FunFrames.cons (by rw [show env.scope.kind = .function from (congrArg (fun e : Env => e.scope.kind) he).trans hk]; decide) (by rw [hL]; exact congrArg Env.frame he) x.toInCall.ns (none' _ (hW _ List.mem_cons_self)) trivial⟩
  · rw [hs']; exact hgens
  · rw [hs']
theorem call_top {prog : Program} {w : World} {f : Addr} {fd : FuncData} {body : List Stmt} {vs : List Value} {binds : List (PySem.Str × Value)} {R : Value → Prop} (F : FnAt ⟨prog, w, s.heap, s.os⟩ f fd body) (room : A.depth < recursionLimit)
    (low : (∃ o, s.heap.get? mainGlobals = some o) ∧ ∃ o, s.heap.get? sysModules = some o) (hA : A.frames = some []) (hgens : AllBare s.gens) (hbind : bindArgs fd ⟨vs, []⟩ = pure binds) (hb : BindOk fd binds)
    (h : ∀ fx', FxIs fx' fd f → EXS ⟨prog, w, s.heap, s.os⟩ (A.deeper fx'.env) fx' body (erB binds) [] (fun fl _ _ => R (retV fl)) noX) :
    codeAny (model prog w) A (.call (.ref f) ⟨vs, []⟩) (fun r s' => ∃ v, r = .ok (.ret v) ∧ R (er v) ∧ (∀ b o, s.heap.get? b = some o → s'.heap.get? b = some o) ∧ s'.os = s.os ∧ AllBare s'.gens) s := by
  obtain ⟨o, ho, hd⟩ := F.obj
  refine codeAny_call_function room ho hd F.co F.gen F.body ?_ ?_
  · obtain ⟨c, oc, ws, t, h1, h2, h3, h4⟩ := F.code
    exact ⟨c, oc, ws, t, h1, h2, h3, h4⟩
  rw [hbind]
  refine wpAny_pure ?_
  rw [F.clo]
  refine wpAny_newFunctionEnv_cells F.kind (fun x hx => ?_) fun env he s' x => ?_
  · rcases hb.kinds x hx with h | h
    · exact .inl h
    · obtain ⟨c, hc⟩ := cellsFrom_some (n := s.heap.objs.size + 1) h
      exact .inr ⟨h, by rw [hc]; rfl⟩
  obtain ⟨S₂, I⟩ := enter_top (prog := prog) (w := w) (A := A) low hA hgens hb F.kind F.glob F.blt he x
  refine ⟨F.limit.keeps fun b o e => S₂.base b o e, codeAny_func (wpAny_mono (h _ I s' S₂) (fun fl s₃ h₃ => ?_) fun e s₃ h₃ => ?_)⟩
  · obtain ⟨m₃, H₃, S₃, E₃, q⟩ := h₃
    have q : R (retV (erF fl)) := q
    rw [retV_er] at q
    cases fl <;> exact ⟨_, rfl, q, fun b o e => S₃.base b o e, S₃.os, S₃.gens⟩
  · obtain ⟨_, _, _, _, z⟩ := h₃
    exact z.elim
end
end Mine

namespace Mine
set_option maxRecDepth 100000
open PySem PySem.W PyProof.Rows
open Sem (wp)
section
variable {α : Type} {C : Cfg} {A A' : Around} {fx fx' : Fx} {m m' m₁ : Lo} {H H' H₁ : AH} {X : Value → Lo → AH → Prop} {K : Frag} {s s' s₁ : Shared} {Q : Value → Lo → AH → Prop}
theorem if_nt {p q : Prop} (h : q) : (if (!true) = true then p else q) := h
theorem call_sorted_t {l : Addr} {ns : List Int} (hl : (l, AO.tup (iv ns)) ∈ H) (h64 : ns.length < 64) (h : ∀ a ns', a ∉ H.keys → ns'.Perm ns → ns'.Pairwise (· ≤ ·) → Q (.ref a) m ((a, .list (iv ns')) :: H)) : CALL C A fx (.builtin "sorted") [.ref l] m H Q X := fun g vs hg hvs => by
  obtain rfl := er_eq_builtin hg
  obtain ⟨a, rfl, ha⟩ := er1 hvs
  obtain rfl := er_eq_ref ha
  intro s S
  obtain ⟨vs, ⟨o, ho, hc, n, hd⟩, h2⟩ := S.isTup hl
  have hI : IntsAre vs.toList ns := intsAre_er h2
  have hlen : vs.toList.length < 64 := by rw [hI.length]; exact h64
  have hlen' : vs.size < 64 := by simpa using hlen
  refine Calls.call_function_entry kind_sorted plain_sorted entry_sorted (args_sorted1 _) ?_
  unfold Builtin.«sorted»
  refine wpAny_bind (m := checkCount "sorted" 1 1 _) (wpAny_pure ?_)
  refine wpAny_bind (wpAny_collect_seq l (.inr rfl) ho hc hd (fun h' hk => ?_) (by rw [sizeLine_eq]; omega))
  refine wpAny_bind (wpAny_newList ?_ (by rw [sizeLine_eq]; omega))
  have ho' : (h'.push (seqObj "list" vs.toList.toArray 0)).get? h'.objs.size = some (seqObj "list" vs.toList.toArray 0) := Heap.get?_push_size _ rfl
  refine wpAny_bind (wpAny_holding (wpAny_call_entry slot_list_sort ⟨_, ho', rfl⟩ entry_list_sort (list_sort_tree ho' hI hlen fun out ns' a1 a2 a3 => ⟨_, rfl, ?_⟩) (args_list_sort _)))
  refine wpAny_pure ⟨_, rfl, ?_⟩
  obtain ⟨S', E'⟩ := S.keeps (s' := { s with heap := h' }) hk
  obtain ⟨e, he⟩ := sortedHeap_at (out := out) ho'
  have hn : h'.get? h'.objs.size = none := none_of_le (Nat.le_refl _)
  obtain ⟨S₂, E₂⟩ := S'.new (s' := { s with heap := sortedHeap (h'.push (seqObj "list" vs.toList.toArray 0)) h'.objs.size vs.toList out }) (ao := .list (iv ns')) hn (fun b o eb => by
      have hlt := Heap.lt_size eb
      have h1 : b < (h'.push (seqObj "list" vs.toList.toArray 0)).objs.size := by rw [size_push']; exact Nat.lt_succ_of_lt hlt
      have h3 := sortedHeap_old (h := h'.push (seqObj "list" vs.toList.toArray 0)) (vs := vs.toList) (out := out) (Nat.ne_of_lt hlt) h1
      rw [h3, Heap.get?_push_ne _ _ _ (Nat.ne_of_lt hlt)]; exact eb) he ⟨rfl, ⟨rfl, rfl⟩, _, _, rfl, er_intsAre a1⟩
  exact ⟨m, _, S₂, E'.trans E₂, h _ ns' (fun hm => Nat.lt_irrefl _ (S'.key_lt hm)) a2 a3⟩
end
end Mine

namespace Mine
set_option maxRecDepth 100000
open PySem PySem.W PyProof.Rows

/-! ### law 1, plain: numbers -/
section
variable {ks : List Int} {f : Int → List Int} {c : List (Int × Nat)} {y : Int}
end
/-! ### depths -/
noncomputable def mx0 (l : List Nat) : Nat := l.foldr max 0
theorem mx0_le {l : List Nat} {k : Nat} : mx0 l ≤ k ↔ ∀ a ∈ l, a ≤ k := by
  induction l with
  | nil => simp [mx0]
  | cons a r ih =>
    show max a (mx0 r) ≤ k ↔ _
    rw [Nat.max_le, ih]
    simp
theorem mx0_is {l : List Nat} {M : Int} (h1 : M ∈ (0 : Int) :: l.map fun (a : Nat) => (a : Int)) (h2 : ∀ a, a ∈ (0 : Int) :: l.map (fun (a : Nat) => (a : Int)) → a ≤ M) : M = (mx0 l : Nat) := by
  have h0 := h2 0 List.mem_cons_self
  obtain ⟨k, rfl⟩ := Int.eq_ofNat_of_zero_le h0
  have hle : mx0 l ≤ k := mx0_le.mpr fun a ha => by
    have := h2 a (List.mem_cons_of_mem _ (List.mem_map.mpr ⟨a, ha, rfl⟩))
    exact_mod_cast this
  have hge : k ≤ mx0 l := by
    rcases List.mem_cons.mp h1 with h | h
    · have : k = 0 := by exact_mod_cast h
      omega
    · obtain ⟨a, ha, e⟩ := List.mem_map.mp h
      have e' : a = k := by exact_mod_cast e
      exact e' ▸ mx0_le.mp (Nat.le_refl _) a ha
  exact_mod_cast Nat.le_antisymm hge hle
section
variable {ks : List Int} {f : Int → List Int} {c : List (Int × Nat)} {y : Int}
variable {D : List Int}
end
end Mine

namespace Mine
set_option maxRecDepth 100000
open PySem PySem.W PyProof.Rows
open Sem (wp)
section
variable {α : Type} {C : Cfg} {A A' : Around} {fx fx' : Fx} {m m' m₁ : Lo} {H H' H₁ : AH} {X : Value → Lo → AH → Prop} {K : Frag} {s s' s₁ : Shared}
theorem si_wk {x i y : Value} {Q : Lo → AH → Prop} (hm : WkL m m') (hH : Wk H H') (h : SI C A fx x i y m' H' Q X) : SI C A fx x i y m H Q X := fun a b c ha hb hc => aw_wk hm hH (h a b c ha hb hc)
theorem si_row {d a : Addr} {ep : Nat} {kl : List (Int × Addr × List Int)} {y : Int} {xs : List Int} {Q : Lo → AH → Prop} (hW : Wk H ((a, .list (iv xs)) :: (d, .dict (kvL kl) ep) :: (LC (kl.map (·.2)) ++ H'))) (hz : kl.length ≤ 1000000) (hf : y ∉ kl.map (·.1))
    (h : ∀ ep', Q m ((d, .dict (kvL (kl ++ [(y, a, xs)])) ep') :: (LC ((kl ++ [(y, a, xs)]).map (·.2)) ++ H'))) : SI C A fx (.ref d) (vI y) (.ref a) m H Q X := by
  refine si_wk WkL.refl hW (si_nodup fun hnd => ?_)
  intro a1 b1 c1 e1 e2 e3
  refine aw_wkp (aw_mono (si_dict (d := d) (kvs := kvL kl) (ep := ep) (Q := fun m' H'' => ∃ ep', m' = m ∧ H'' = AH.put ((a, .list (iv xs)) :: (d, .dict (kvL kl) ep) :: (LC (kl.map (·.2)) ++ H')) d (.dict (stored (kvL kl) y (.ref a)) ep')) (X := X) (up1 List.mem_cons_self) (by unfold kvL; rw [List.length_map]; exact hz) (fun ep' => ⟨ep', rfl, rfl⟩) a1 b1 c1 e1 e2 e3) ?_ fun e m' H'' hx => ⟨_, _, WkL.refl, Wk.refl, hx⟩)
  rintro _ m' H'' ⟨ep', rfl, rfl⟩
  have hst : stored (kvL kl) y (.ref a) = kvL (kl ++ [(y, a, xs)]) := by
    rw [stored_not (by rw [kvL_keys]; exact hf)]
    unfold kvL
    rw [List.map_append]; rfl
  rw [hst, put_at1 hnd]
  refine ⟨_, _, WkL.refl, ?_, h ep'⟩
  rw [List.map_append, LC_append]
  exact wk_row
end
end Mine

namespace Mine
set_option maxRecDepth 100000
open PySem PySem.W PyProof.Rows
open Sem (wp)
/-! ### a dict of numbers -/
end Mine

namespace Mine
set_option maxRecDepth 100000
open PySem PySem.W PyProof.Rows
open Sem (wp)
end Mine

namespace Mine
set_option maxRecDepth 100000
open PySem PySem.W PyProof.Rows
open Sem (wp)
/-! ### tuples of one number -/
section
variable {α : Type} {C : Cfg} {A A' : Around} {fx fx' : Fx} {m m' m₁ : Lo} {H H' H₁ : AH} {X : Value → Lo → AH → Prop} {K : Frag} {s s' s₁ : Shared}
noncomputable def kvF (D : List Int) (g : Int → Int) : List (Int × Value) := D.map fun y => (y, vI (g y))
theorem kvF_keys {D : List Int} {g : Int → Int} : (kvF D g).map (·.1) = D := by unfold kvF; rw [List.map_map]; exact List.map_id D
theorem dval_kvF {D : List Int} {g : Int → Int} {y : Int} (hn : D.Nodup) (hy : y ∈ D) : dval (kvF D g) y = some (vI (g y)) :=
  dval_mem (by rw [kvF_keys]; exact hn) (List.mem_map.mpr ⟨y, hy, rfl⟩)
end
end Mine

namespace Mine
set_option maxRecDepth 100000
open PySem PySem.W PyProof.Rows

/-! ### law 4, plain: depths -/
noncomputable def dep (ahead : Int → List Int) : Nat → Int → Nat
  | 0, _ => 0
  | r + 1, x => mx0 ((ahead x).map fun z => dep ahead r z + 1)
section
variable {ahead : Int → List Int} {ks : List Int} {first last : Int → Int}
theorem dep_le {r k : Nat} {x : Int} : dep ahead (r + 1) x ≤ k ↔ ∀ z ∈ ahead x, dep ahead r z < k := by
  show mx0 _ ≤ k ↔ _
  rw [mx0_le]
  simp only [List.forall_mem_map]
  exact ⟨fun h z hz => h z hz, fun h z hz => h z hz⟩
theorem dep_stab : ∀ (r k : Nat) (x : Int), k ≤ r → (dep ahead r x < k ↔ dep ahead (r + 1) x < k)
  | r, 0, x, _ => by omega
  | 0, k + 1, x, h => by omega
  | r + 1, k + 1, x, h => by
    rw [Nat.lt_succ_iff, Nat.lt_succ_iff, dep_le, dep_le]
    exact ⟨fun h1 z hz => (dep_stab r k z (by omega)).mp (h1 z hz), fun h1 z hz => (dep_stab r k z (by omega)).mpr (h1 z hz)⟩
theorem dep_bd : ∀ (r : Nat) (x : Int), dep ahead r x ≤ r
  | 0, x => Nat.le_refl _
  | r + 1, x => dep_le.mpr fun z _ => Nat.lt_succ_of_le (dep_bd r z)
theorem dep_iff {n k : Nat} (hk : k < n) {x : Int} : dep ahead n x ≤ k ↔ ∀ z ∈ ahead x, dep ahead n z < k := by
  obtain ⟨m, rfl⟩ : ∃ m, n = m + 1 := ⟨n - 1, (Nat.sub_add_cancel (Nat.one_le_of_lt hk)).symm⟩
  rw [dep_le]
  exact ⟨fun h z hz => (dep_stab m k z (by omega)).mp (h z hz), fun h z hz => (dep_stab m k z (by omega)).mpr (h z hz)⟩
theorem work_group {n k : Nat} {D L : List Int} {g : G} (hk : k < n) (hcl : ∀ y ∈ ks, ∀ x ∈ ahead y, x ∈ ks) (h : Rnd (gTab ks ahead) D D L g) (hD : ∀ y, y ∈ D ↔ y ∈ ks ∧ dep ahead n y < k) :
    ∀ y, y ∈ L ↔ y ∈ ks ∧ dep ahead n y = k := by
  intro y
  rw [h.rd, cnt_zero (gTab_W ks ahead).nd, gTab_nodes hcl]
  constructor
  · rintro ⟨hy, hyD, hm⟩
    have h1 := (dep_iff hk).mpr fun z hz => ((hD z).mp (hm z (gTab_edge.mpr ⟨hy, hz⟩))).2
    exact ⟨hy, Nat.le_antisymm h1 (Nat.not_lt.mp fun hlt => hyD ((hD y).mpr ⟨hy, hlt⟩))⟩
  · rintro ⟨hy, hr⟩
    refine ⟨hy, fun hyD => ?_, fun m hm => ?_⟩
    · have := ((hD y).mp hyD).2; omega
    · obtain ⟨_, hm1⟩ := gTab_edge.mp hm
      exact (hD m).mpr ⟨hcl y hy m hm1, (dep_iff hk).mp (Nat.le_of_eq hr) m hm1⟩
noncomputable def gEv (ks : List Int) (first last : Int → Int) : G := gBuild (ks.map fun x => (last x, [first x]))
noncomputable def aheadF (ks : List Int) (first last : Int → Int) (x : Int) : List Int := ks.filter fun z => last z == first x
theorem gEv_edge {j e : Int} : j ∈ gSuc (gEv ks first last) e ↔ ∃ w ∈ ks, j = last w ∧ e = first w := by
  unfold gEv
  rw [build_edge]
  constructor
  · rintro ⟨p, hp, h1, h2⟩
    obtain ⟨w, hw, rfl⟩ := List.mem_map.mp hp
    exact ⟨w, hw, h1, List.mem_singleton.mp h2⟩
  · rintro ⟨w, hw, h1, h2⟩
    exact ⟨_, List.mem_map.mpr ⟨w, hw, rfl⟩, h1, List.mem_singleton.mpr h2⟩
theorem gEv_node {x : Int} (hx : x ∈ ks) : first x ∈ nodes (gEv ks first last) := by
  unfold gEv
  rw [build_nodes]
  exact ⟨_, List.mem_map.mpr ⟨x, hx, rfl⟩, .inr (List.mem_singleton.mpr rfl)⟩
theorem gEv_W : WG (gEv ks first last) := build_W _
theorem ahead_mem {x z : Int} : z ∈ aheadF ks first last x ↔ z ∈ ks ∧ last z = first x := by
  unfold aheadF; rw [List.mem_filter, beq_iff_eq]
theorem ahead_cl : ∀ y ∈ ks, ∀ x ∈ aheadF ks first last y, x ∈ ks := fun y _ x hx => (ahead_mem.mp hx).1
theorem ev_group {n k : Nat} {D L : List Int} {g : G} (hk : k < n) (h : Rnd (gEv ks first last) D D L g) (hD : ∀ x ∈ ks, first x ∈ D ↔ dep (aheadF ks first last) n x < k) :
    ∀ x ∈ ks, first x ∈ L ↔ dep (aheadF ks first last) n x = k := by
  intro x hx
  rw [h.rd, cnt_zero gEv_W.nd]
  constructor
  · rintro ⟨_, h1, h2⟩
    have h3 := (dep_iff (ahead := aheadF ks first last) hk (x := x)).mpr fun z hz => by
      obtain ⟨hz1, hz2⟩ := ahead_mem.mp hz
      exact (hD z hz1).mp (h2 _ (gEv_edge.mpr ⟨z, hz1, hz2.symm, rfl⟩))
    exact Nat.le_antisymm h3 (Nat.not_lt.mp fun hlt => h1 ((hD x hx).mpr hlt))
  · intro hr
    refine ⟨gEv_node hx, fun h1 => ?_, fun e he => ?_⟩
    · have := (hD x hx).mp h1; omega
    · obtain ⟨w, hw, h2, rfl⟩ := gEv_edge.mp he
      exact (hD w hw).mpr ((dep_iff hk).mp (Nat.le_of_eq hr) w (ahead_mem.mpr ⟨hw, h2.symm⟩))
/-! rings of the events, and of the works -/
theorem ev_to_work {S : List Int} (hS : SelfSup (gEv ks first last) S) (hne : S ≠ []) : ∃ T, T ≠ [] ∧ SelfSup (gTab ks (aheadF ks first last)) T := by
  refine ⟨ks.filter fun x => decide (first x ∈ S), ?_, fun t ht => ?_⟩
  · obtain ⟨e, he⟩ := List.exists_mem_of_ne_nil S hne
    obtain ⟨e', he', hs⟩ := hS e he
    obtain ⟨w, hw, _, rfl⟩ := gEv_edge.mp hs
    exact List.ne_nil_of_mem (List.mem_filter.mpr ⟨hw, decide_eq_true he'⟩)
  · obtain ⟨h1, h2⟩ := List.mem_filter.mp ht
    obtain ⟨e', he', hs⟩ := hS _ (of_decide_eq_true h2)
    obtain ⟨w, hw, h3, rfl⟩ := gEv_edge.mp hs
    exact ⟨w, List.mem_filter.mpr ⟨hw, decide_eq_true he'⟩, gTab_edge.mpr ⟨h1, ahead_mem.mpr ⟨hw, h3.symm⟩⟩⟩
theorem work_to_ev {T : List Int} (hT : SelfSup (gTab ks (aheadF ks first last)) T) (hne : T ≠ []) : ∃ S, S ≠ [] ∧ SelfSup (gEv ks first last) S := by
  refine ⟨T.map first, by simpa using hne, fun e he => ?_⟩
  obtain ⟨t, ht, rfl⟩ := List.mem_map.mp he
  obtain ⟨w, hw, hs⟩ := hT t ht
  obtain ⟨h1, h2⟩ := gTab_edge.mp hs
  obtain ⟨h3, h4⟩ := ahead_mem.mp h2
  exact ⟨first w, List.mem_map_of_mem hw, gEv_edge.mpr ⟨w, h3, h4.symm, rfl⟩⟩
theorem rings_say {n : Nat} {D : List Int} (hL : Left (gTab ks (aheadF ks first last)) D) (hD : ∀ y, y ∈ D ↔ y ∈ ks ∧ dep (aheadF ks first last) n y < n) {rw re : Bool}
    (hw1 : rw = true → ∃ v, Ring (gTab ks (aheadF ks first last)) v) (hw2 : rw = false → ∃ F, Fin' (gTab ks (aheadF ks first last)) F)
    (he1 : re = true → ∃ v, Ring (gEv ks first last) v) (he2 : re = false → ∃ F, Fin' (gEv ks first last) F) :
    rw = !decide ((ks.filter fun x => decide (dep (aheadF ks first last) n x = n)) = []) ∧ re = !decide ((ks.filter fun x => decide (dep (aheadF ks first last) n x = n)) = []) := by
  have hW := gTab_W ks (aheadF ks first last)
  have hst : ∀ k ∈ ks, k ∉ D → (ks.filter fun x => decide (dep (aheadF ks first last) n x = n)) ≠ [] := fun k hk hkD => by
    refine List.ne_nil_of_mem (a := k) (List.mem_filter.mpr ⟨hk, decide_eq_true ?_⟩)
    exact Nat.le_antisymm (dep_bd n k) (Nat.not_lt.mp fun hlt => hkD ((hD k).mpr ⟨hk, hlt⟩))
  have hno : (∀ k ∈ ks, k ∈ D) → (ks.filter fun x => decide (dep (aheadF ks first last) n x = n)) = [] := fun h => by
    rw [List.filter_eq_nil_iff]
    intro k hk
    have := ((hD k).mp (h k hk)).2
    simp; omega
  have hnod : ∀ {j}, j ∈ nodes (gTab ks (aheadF ks first last)) ↔ j ∈ ks := gTab_nodes ahead_cl
  constructor
  · cases rw with
    | true =>
      obtain ⟨v, hv⟩ := hw1 rfl
      obtain ⟨k, hk, hkD⟩ := hL.of_ring hv
      simpa using hst k (hnod.mp hk) hkD
    | false =>
      obtain ⟨F, hF⟩ := hw2 rfl
      rw [hno fun k hk => hL.of_fin hW.nd hF k (hnod.mpr hk)]; rfl
  · cases re with
    | true =>
      obtain ⟨v, hv⟩ := he1 rfl
      obtain ⟨h1, h2⟩ := ring_sup hv
      obtain ⟨T, hne, hT⟩ := ev_to_work h1 h2
      obtain ⟨t, ht⟩ := List.exists_mem_of_ne_nil T hne
      obtain ⟨w, _, hs⟩ := hT t ht
      have := hst t (gTab_edge.mp hs).1 fun htD => hL.no T hT t htD ht
      simpa using this
    | false =>
      obtain ⟨F, hF⟩ := he2 rfl
      have : ∀ k ∈ ks, k ∈ D := fun k hk => Classical.byContradiction fun hkD => by
        obtain ⟨S, hne, hS⟩ := work_to_ev hL.sup (List.ne_nil_of_mem (a := k) (List.mem_filter.mpr ⟨hnod.mpr hk, decide_eq_true hkD⟩))
        obtain ⟨e, he⟩ := List.exists_mem_of_ne_nil S hne
        exact fin_no hF gEv_W.nd hS e he
      rw [hno this]; rfl
end
end Mine

namespace Mine
set_option maxRecDepth 100000
open PySem PySem.W PyProof.Rows

/-! ### law 4, plain: blocks -/
noncomputable def blkAdd (ba : List Int × List (List Int)) (o : List Int) : List Int × List (List Int) :=
  if (o.filter fun x => decide (x ∉ ba.1)) = o then (ba.1, ba.2 ++ [o]) else (ba.1 ++ o.filter fun x => decide (x ∉ ba.1), ba.2)
noncomputable def blkStep (f : Int → List Int) (bs : List (List Int)) (x : Int) : List (List Int) :=
  if (bs.foldl blkAdd (f x, [])).1 = [] then bs else (bs.foldl blkAdd (f x, [])).2 ++ [(bs.foldl blkAdd (f x, [])).1]
noncomputable def blocksF (ks : List Int) (f : Int → List Int) : List (List Int) := ks.foldl (blkStep f) []
noncomputable def Sat (xs : List Int) (f : Int → List Int) (S : Int → Prop) : Prop := ∀ x ∈ xs, (∀ y ∈ f x, S y) ∨ (∀ y ∈ f x, ¬ S y)
structure BI (xs : List Int) (f : Int → List Int) (bs : List (List Int)) : Prop where
  nd : ∀ b ∈ bs, b.Nodup
  ne : ∀ b ∈ bs, b ≠ []
  dj : bs.Pairwise fun a b => ∀ y ∈ a, y ∉ b
  el : ∀ y, (∃ b ∈ bs, y ∈ b) ↔ ∃ x ∈ xs, y ∈ f x
  cl : ∀ x ∈ xs, ∀ b ∈ bs, (∃ y ∈ f x, y ∈ b) → ∀ y ∈ f x, y ∈ b
  lk : ∀ S : Int → Prop, Sat xs f S → ∀ b ∈ bs, (∀ y ∈ b, S y) ∨ (∀ y ∈ b, ¬ S y)
theorem dj_eq {y : Int} : ∀ {bs : List (List Int)} {a b : List Int}, bs.Pairwise (fun a b => ∀ y ∈ a, y ∉ b) → a ∈ bs → b ∈ bs → y ∈ a → y ∈ b → a = b
  | [], _, _, _, h, _, _, _ => by cases h
  | c :: r, a, b, hp, ha, hb, hya, hyb => by
    rw [List.pairwise_cons] at hp
    rcases List.mem_cons.mp ha with h1 | h1 <;> rcases List.mem_cons.mp hb with h2 | h2
    · rw [h1, h2]
    · exact absurd hyb (hp.1 b h2 y (h1 ▸ hya))
    · exact absurd hya (hp.1 a h1 y (h2 ▸ hyb))
    · exact dj_eq hp.2 h1 h2 hya hyb
noncomputable abbrev Meets' (r o : List Int) : Prop := ∃ z ∈ o, z ∈ r
theorem blk_fold {r : List Int} (hr : r.Nodup) : ∀ (Q : List (List Int)) (P : List (List Int)) (bl : List Int) (ap : List (List Int)), (P ++ Q).Pairwise (fun a b => ∀ y ∈ a, y ∉ b) → (∀ b ∈ Q, b.Nodup) → bl.Nodup →
    (∀ y, y ∈ bl ↔ y ∈ r ∨ ∃ o ∈ P, Meets' r o ∧ y ∈ o) → ap = P.filter (fun o => decide (¬ Meets' r o)) →
    (Q.foldl blkAdd (bl, ap)).1.Nodup ∧ (∀ y, y ∈ (Q.foldl blkAdd (bl, ap)).1 ↔ y ∈ r ∨ ∃ o ∈ P ++ Q, Meets' r o ∧ y ∈ o) ∧ (Q.foldl blkAdd (bl, ap)).2 = (P ++ Q).filter fun o => decide (¬ Meets' r o)
  | [], P, bl, ap, hp, hq, hn, hb, ha => by rw [List.append_nil]; exact ⟨hn, hb, ha⟩
  | o :: Q, P, bl, ap, hp, hq, hn, hb, ha => by
    have hpo : ∀ p ∈ P, ∀ y ∈ p, y ∉ o := fun p hpP => (List.pairwise_append.mp hp).2.2 p hpP o List.mem_cons_self
    have hbo : ∀ z ∈ o, (z ∈ bl ↔ z ∈ r) := fun z hz => by
      rw [hb]
      exact ⟨fun h => h.elim id fun ⟨p, hpP, _, hzp⟩ => absurd hz (hpo p hpP z hzp), .inl⟩
    have hiff : (o.filter fun x => decide (x ∉ bl)) = o ↔ ¬ Meets' r o := by
      rw [List.filter_eq_self]
      constructor
      · rintro h ⟨z, hz, hzr⟩
        have := of_decide_eq_true (h z hz)
        exact this ((hbo z hz).mpr hzr)
      · intro h z hz
        exact decide_eq_true fun hzb => h ⟨z, hz, (hbo z hz).mp hzb⟩
    have e : P ++ o :: Q = (P ++ [o]) ++ Q := by simp
    rw [List.foldl_cons]
    by_cases hm : Meets' r o
    · have e2 : blkAdd (bl, ap) o = (bl ++ o.filter fun x => decide (x ∉ bl), ap) := by
        unfold blkAdd; rw [if_neg fun h => hiff.mp h hm]
      rw [e2, e]
      refine blk_fold hr Q (P ++ [o]) _ _ (e ▸ hp) (fun b hb => hq b (List.mem_cons_of_mem _ hb)) ?_ (fun y => ?_) ?_
      · rw [List.nodup_append]
        refine ⟨hn, (hq o List.mem_cons_self).sublist List.filter_sublist, fun a ha b hb e => ?_⟩
        have := of_decide_eq_true (List.mem_filter.mp hb).2
        exact this (e ▸ ha)
      · rw [List.mem_append, List.mem_filter, decide_eq_true_eq]
        constructor
        · rintro (h | ⟨h1, _⟩)
          · exact ((hb y).mp h).imp_right fun ⟨p, hpP, h2, h3⟩ => ⟨p, List.mem_append_left _ hpP, h2, h3⟩
          · exact .inr ⟨o, List.mem_append_right _ List.mem_cons_self, hm, h1⟩
        · intro h
          by_cases hyb : y ∈ bl
          · exact .inl hyb
          · rcases h with h | ⟨p, hpP, h2, h3⟩
            · exact .inl ((hb y).mpr (.inl h))
            · rcases List.mem_append.mp hpP with h4 | h4
              · exact .inl ((hb y).mpr (.inr ⟨p, h4, h2, h3⟩))
              · rw [List.mem_singleton.mp h4] at h3
                exact .inr ⟨h3, hyb⟩
      · rw [ha, List.filter_append, List.filter_cons_of_neg (by simp [hm])]; simp
    · have e2 : blkAdd (bl, ap) o = (bl, ap ++ [o]) := by
        unfold blkAdd; rw [if_pos (hiff.mpr hm)]
      rw [e2, e]
      refine blk_fold hr Q (P ++ [o]) _ _ (e ▸ hp) (fun b hb => hq b (List.mem_cons_of_mem _ hb)) hn (fun y => ?_) ?_
      · rw [hb]
        constructor
        · exact fun h => h.imp_right fun ⟨p, hpP, h2, h3⟩ => ⟨p, List.mem_append_left _ hpP, h2, h3⟩
        · exact fun h => h.imp_right fun ⟨p, hpP, h2, h3⟩ => by
            rcases List.mem_append.mp hpP with h4 | h4
            · exact ⟨p, h4, h2, h3⟩
            · rw [List.mem_singleton.mp h4] at h2; exact absurd h2 hm
      · rw [ha, List.filter_append, List.filter_cons_of_pos (by simp [hm])]; simp
theorem BI.nil {f : Int → List Int} : BI [] f [] := ⟨fun b h => by (cases h), fun b h => by (cases h), List.Pairwise.nil, fun y => by simp, fun x h => by (cases h), fun S _ b h => by (cases h)⟩
theorem BI.step {xs : List Int} {f : Int → List Int} {bs : List (List Int)} {x : Int} (h : BI xs f bs) (hx : (f x).Nodup) : BI (xs ++ [x]) f (blkStep f bs x) := by
  obtain ⟨h1, h2, h3⟩ := blk_fold hx bs [] (f x) [] (by simpa using h.dj) h.nd hx (fun y => by simp) rfl
  unfold blkStep
  rw [List.nil_append] at h2 h3
  generalize bs.foldl blkAdd (f x, []) = q at h1 h2 h3
  obtain ⟨B, ap⟩ := q
  dsimp only at h1 h2 h3 ⊢
  subst h3
  have hfB : ∀ y ∈ f x, y ∈ B := fun y hy => (h2 y).mpr (.inl hy)
  have mem : ∀ {x'}, x' ∈ xs ++ [x] ↔ x' ∈ xs ∨ x' = x := by simp
  split
  · rename_i hB
    subst hB
    have hf0 : ∀ y, y ∉ f x := fun y hy => by cases hfB y hy
    refine ⟨h.nd, h.ne, h.dj, fun y => (h.el y).trans ⟨fun ⟨x', a, b⟩ => ⟨x', mem.mpr (.inl a), b⟩, fun ⟨x', a, b⟩ => ?_⟩, fun x' hx' b hb ⟨y, hy, hyb⟩ => ?_, fun S hS => h.lk S fun x' hx' => hS x' (mem.mpr (.inl hx'))⟩
    · rcases mem.mp a with a | rfl
      · exact ⟨x', a, b⟩
      · exact absurd b (hf0 y)
    · rcases mem.mp hx' with a | rfl
      · exact h.cl x' a b hb ⟨y, hy, hyb⟩
      · exact absurd hy (hf0 y)
  · rename_i hB
    have hmem : ∀ {b}, b ∈ bs.filter (fun o => decide (¬ Meets' (f x) o)) ++ [B] ↔ (b ∈ bs ∧ ¬ Meets' (f x) b) ∨ b = B := by
      intro b; simp [List.mem_append, List.mem_filter]
    have hmB : ∀ o ∈ bs, Meets' (f x) o → ∀ y ∈ o, y ∈ B := fun o ho hm y hy => (h2 y).mpr (.inr ⟨o, ho, hm, hy⟩)
    refine ⟨fun b hb => ?_, fun b hb => ?_, ?_, fun y => ?_, fun x' hx' b hb hyb => ?_, fun S hS b hb => ?_⟩
    · rcases hmem.mp hb with h4 | rfl
      · exact h.nd b h4.1
      · exact h1
    · rcases hmem.mp hb with h4 | rfl
      · exact h.ne b h4.1
      · exact hB
    · rw [List.pairwise_append]
      refine ⟨h.dj.sublist List.filter_sublist, by simp, fun a ha b hb y hya hyb => ?_⟩
      rw [List.mem_singleton.mp hb] at hyb
      obtain ⟨ha1, ha2⟩ := List.mem_filter.mp ha
      have ha2 := of_decide_eq_true ha2
      rcases (h2 y).mp hyb with h4 | ⟨o, ho, hm, hyo⟩
      · exact ha2 ⟨y, hya, h4⟩
      · exact ha2 (dj_eq h.dj ha1 ho hya hyo ▸ hm)
    · constructor
      · rintro ⟨b, hb, hyb⟩
        rcases hmem.mp hb with h4 | rfl
        · obtain ⟨x', a, c⟩ := (h.el y).mp ⟨b, h4.1, hyb⟩
          exact ⟨x', mem.mpr (.inl a), c⟩
        · rcases (h2 y).mp hyb with h4 | ⟨o, ho, hm, hyo⟩
          · exact ⟨x, mem.mpr (.inr rfl), h4⟩
          · obtain ⟨x', a, c⟩ := (h.el y).mp ⟨o, ho, hyo⟩
            exact ⟨x', mem.mpr (.inl a), c⟩
      · rintro ⟨x', a, c⟩
        rcases mem.mp a with a | rfl
        · obtain ⟨o, ho, hyo⟩ := (h.el y).mpr ⟨x', a, c⟩
          by_cases hm : Meets' (f x) o
          · exact ⟨B, hmem.mpr (.inr rfl), hmB o ho hm y hyo⟩
          · exact ⟨o, hmem.mpr (.inl ⟨ho, hm⟩), hyo⟩
        · exact ⟨B, hmem.mpr (.inr rfl), hfB y c⟩
    · obtain ⟨y, hy, hyb⟩ := hyb
      rcases hmem.mp hb with h4 | rfl
      · rcases mem.mp hx' with a | rfl
        · exact h.cl x' a b h4.1 ⟨y, hy, hyb⟩
        · exact absurd ⟨y, hyb, hy⟩ h4.2
      · rcases mem.mp hx' with a | rfl
        · obtain ⟨o, ho, hyo⟩ := (h.el y).mpr ⟨x', a, hy⟩
          have ho2 := h.cl x' a o ho ⟨y, hy, hyo⟩
          have hm : Meets' (f x) o := by
            rcases (h2 y).mp hyb with h4 | ⟨o', ho', hm, hyo'⟩
            · exact ⟨y, hyo, h4⟩
            · exact dj_eq h.dj ho' ho hyo' hyo ▸ hm
          exact fun z hz => hmB o ho hm z (ho2 z hz)
        · exact hfB
    · have hS' : Sat xs f S := fun x' hx' => hS x' (mem.mpr (.inl hx'))
      rcases hmem.mp hb with h4 | rfl
      · exact h.lk S hS' b h4.1
      · rcases hS x (mem.mpr (.inr rfl)) with h5 | h5
        · left
          intro y hy
          rcases (h2 y).mp hy with h6 | ⟨o, ho, ⟨z, hz1, hz2⟩, hyo⟩
          · exact h5 y h6
          · exact (h.lk S hS' o ho).elim (fun h7 => h7 y hyo) fun h7 => absurd (h5 z hz2) (h7 z hz1)
        · right
          intro y hy
          rcases (h2 y).mp hy with h6 | ⟨o, ho, ⟨z, hz1, hz2⟩, hyo⟩
          · exact h5 y h6
          · exact (h.lk S hS' o ho).elim (fun h7 => absurd (h7 z hz1) (h5 z hz2)) fun h7 => h7 y hyo
theorem blocks_fold {f : Int → List Int} : ∀ (l : List Int) {xs : List Int} {bs : List (List Int)}, (∀ x ∈ l, (f x).Nodup) → BI xs f bs → BI (xs ++ l) f (l.foldl (blkStep f) bs)
  | [], xs, bs, _, h => by rw [List.append_nil]; exact h
  | x :: r, xs, bs, hl, h => by
    have := blocks_fold r (fun y hy => hl y (List.mem_cons_of_mem _ hy)) (h.step (hl x List.mem_cons_self))
    rw [List.append_assoc] at this
    exact this
theorem blocks_BI {ks : List Int} {f : Int → List Int} (hn : ∀ x ∈ ks, (f x).Nodup) : BI ks f (blocksF ks f) := by
  have := blocks_fold ks hn (BI.nil (f := f))
  rwa [List.nil_append] at this
end Mine

namespace Mine
set_option maxRecDepth 100000
open PySem PySem.W PyProof.Rows

/-! ### law 4, plain: the least names -/
noncomputable def mn9 (l : List Int) : Int := l.foldr min 9
theorem mn9_le {l : List Int} : ∀ a ∈ l, mn9 l ≤ a := by
  induction l with
  | nil => intro a h; cases h
  | cons b r ih =>
    intro a ha
    show min b (mn9 r) ≤ a
    rcases List.mem_cons.mp ha with rfl | h
    · exact Int.min_le_left _ _
    · exact Int.le_trans (Int.min_le_right _ _) (ih a h)
theorem mn9_nine {l : List Int} : mn9 l ≤ 9 := by
  induction l with
  | nil => exact Int.le_refl _
  | cons b r ih => exact Int.le_trans (Int.min_le_right _ _) ih
theorem mn9_in' {l : List Int} : mn9 l = 9 ∨ mn9 l ∈ l := by
  induction l with
  | nil => exact .inl rfl
  | cons b r ih =>
    show min b (mn9 r) = 9 ∨ min b (mn9 r) ∈ b :: r
    rcases Int.le_total b (mn9 r) with h | h
    · rw [Int.min_eq_left h]; exact .inr List.mem_cons_self
    · rw [Int.min_eq_right h]; exact ih.imp_right fun h => List.mem_cons_of_mem _ h
theorem mn9_in {l : List Int} (hne : l ≠ []) (h9 : ∀ a ∈ l, a ≤ 9) : mn9 l ∈ l := by
  rcases mn9_in' (l := l) with h | h
  · obtain ⟨a, ha⟩ := List.exists_mem_of_ne_nil l hne
    have h1 := mn9_le a ha
    have h2 := h9 a ha
    rw [h] at h1
    rw [h, show (9 : Int) = a by omega]; exact ha
  · exact h
theorem mn9_is {l : List Int} {M : Int} (h1 : M ∈ (9 : Int) :: l) (h2 : ∀ a, a ∈ (9 : Int) :: l → M ≤ a) : M = mn9 l := by
  refine Int.le_antisymm ?_ ?_
  · rcases mn9_in' (l := l) with h | h
    · rw [h]; exact h2 9 List.mem_cons_self
    · exact h2 _ (List.mem_cons_of_mem _ h)
  · rcases List.mem_cons.mp h1 with rfl | h
    · exact mn9_nine
    · exact mn9_le _ h
noncomputable def lStep (f : Int → List Int) (g : Int → Int) (x : Int) : Int → Int := fun y => if y ∈ f x then mn9 ((f x).map g) else g y
noncomputable def lTurn (ks : List Int) (f : Int → List Int) (g : Int → Int) : Int → Int := ks.foldl (lStep f) g
noncomputable def lTurns (ks : List Int) (f : Int → List Int) : Nat → Int → Int
  | 0 => fun y => y
  | n + 1 => lTurn ks f (lTurns ks f n)
structure LI (ks : List Int) (f : Int → List Int) (g : Int → Int) : Prop where
  le : ∀ y, g y ≤ y
  sat : ∀ S, Sat ks f S → ∀ y, S y → S (g y)
section
variable {ks : List Int} {f : Int → List Int} {g : Int → Int} {B : List Int} {μ : Int}
theorem LI.in_ (h : LI ks f g) {x y : Int} (h9 : ∀ y ∈ f x, y ≤ 9) (hy : y ∈ f x) : ∃ z ∈ f x, mn9 ((f x).map g) = g z := by
  have h1 : (f x).map g ≠ [] := by
    intro e
    rw [List.map_eq_nil_iff] at e
    rw [e] at hy; cases hy
  have h2 := mn9_in h1 fun a ha => by
    obtain ⟨z, hz, rfl⟩ := List.mem_map.mp ha
    exact Int.le_trans (h.le z) (h9 z hz)
  obtain ⟨z, hz, e⟩ := List.mem_map.mp h2
  exact ⟨z, hz, e.symm⟩
theorem LI.step (h : LI ks f g) {x : Int} (hx : x ∈ ks) (h9 : ∀ y ∈ f x, y ≤ 9) : LI ks f (lStep f g x) := by
  refine ⟨fun y => ?_, fun S hS y hy => ?_⟩ <;> unfold lStep
  · split
    · rename_i hyx
      exact Int.le_trans (mn9_le _ (List.mem_map_of_mem hyx)) (h.le y)
    · exact h.le y
  · split
    · rename_i hyx
      obtain ⟨z, hz, e⟩ := h.in_ h9 hyx
      rw [e]
      rcases hS x hx with h1 | h1
      · exact h.sat S hS z (h1 z hz)
      · exact absurd hy (h1 y hyx)
    · exact h.sat S hS y hy
theorem LI.fold (h9 : ∀ x ∈ ks, ∀ y ∈ f x, y ≤ 9) : ∀ (l : List Int) {g : Int → Int}, (∀ x ∈ l, x ∈ ks) → LI ks f g → LI ks f (l.foldl (lStep f) g)
  | [], _, _, h => h
  | x :: r, g, hl, h => LI.fold h9 r (fun y hy => hl y (List.mem_cons_of_mem _ hy)) (h.step (hl x List.mem_cons_self) (h9 x (hl x List.mem_cons_self)))
theorem LI.turns (h9 : ∀ x ∈ ks, ∀ y ∈ f x, y ≤ 9) : ∀ n, LI ks f (lTurns ks f n)
  | 0 => ⟨fun y => Int.le_refl _, fun S _ y hy => hy⟩
  | n + 1 => LI.fold h9 ks (fun _ h => h) (LI.turns h9 n)
theorem LI.new (h : LI ks f g) (hB : Sat ks f (· ∈ B)) (hμ : ∀ b ∈ B, μ ≤ b) {x y1 y2 : Int} (hx : x ∈ ks) (h9 : ∀ y ∈ f x, y ≤ 9) (h1 : y1 ∈ f x) (hy1 : y1 ∈ B) (hg : g y1 = μ) (h2 : y2 ∈ f x) : lStep f g x y2 = μ := by
  unfold lStep
  rw [if_pos h2]
  refine Int.le_antisymm (hg ▸ mn9_le _ (List.mem_map_of_mem h1)) ?_
  obtain ⟨z, hz, e⟩ := h.in_ h9 h1
  rw [e]
  rcases hB x hx with h3 | h3
  · exact hμ _ (h.sat _ hB z (h3 z hz))
  · exact absurd hy1 (h3 y1 h1)
theorem LI.keep (h : LI ks f g) (hB : Sat ks f (· ∈ B)) (hμ : ∀ b ∈ B, μ ≤ b) {x y : Int} (hx : x ∈ ks) (h9 : ∀ y ∈ f x, y ≤ 9) (hy : y ∈ B) (hg : g y = μ) : lStep f g x y = μ := by
  by_cases h1 : y ∈ f x
  · exact h.new hB hμ hx h9 h1 hy hg h1
  · unfold lStep; rw [if_neg h1]; exact hg
theorem LI.keeps (h9 : ∀ x ∈ ks, ∀ y ∈ f x, y ≤ 9) (hB : Sat ks f (· ∈ B)) (hμ : ∀ b ∈ B, μ ≤ b) {y : Int} (hy : y ∈ B) : ∀ (l : List Int) {g : Int → Int}, (∀ x ∈ l, x ∈ ks) → LI ks f g → g y = μ → (l.foldl (lStep f) g) y = μ
  | [], _, _, _, hg => hg
  | x :: r, g, hl, h, hg => LI.keeps h9 hB hμ hy r (fun y hy => hl y (List.mem_cons_of_mem _ hy)) (h.step (hl x List.mem_cons_self) (h9 x (hl x List.mem_cons_self))) (h.keep hB hμ (hl x List.mem_cons_self) (h9 x (hl x List.mem_cons_self)) hy hg)
theorem LI.news (h9 : ∀ x ∈ ks, ∀ y ∈ f x, y ≤ 9) (hB : Sat ks f (· ∈ B)) (hμ : ∀ b ∈ B, μ ≤ b) {x y1 y2 : Int} (h1 : y1 ∈ f x) (hy1 : y1 ∈ B) (h2 : y2 ∈ f x) (hy2 : y2 ∈ B) : ∀ (l : List Int) {g : Int → Int}, (∀ x ∈ l, x ∈ ks) → x ∈ l → LI ks f g → g y1 = μ → (l.foldl (lStep f) g) y2 = μ
  | [], _, _, hx, _, _ => by cases hx
  | w :: r, g, hl, hx, h, hg => by
    have hw := hl w List.mem_cons_self
    have hr := fun y hy => hl y (List.mem_cons_of_mem w hy)
    rw [List.foldl_cons]
    rcases List.mem_cons.mp hx with rfl | hx
    · exact LI.keeps h9 hB hμ hy2 r hr (h.step hw (h9 _ hw)) (h.new hB hμ hw (h9 _ hw) h1 hy1 hg h2)
    · exact LI.news h9 hB hμ h1 hy1 h2 hy2 r hr hx (h.step hw (h9 _ hw)) (h.keep hB hμ hw (h9 _ hw) hy1 hg)
theorem filter_grow {p q : Int → Bool} {z : Int} : ∀ {l : List Int}, (∀ x ∈ l, p x = true → q x = true) → z ∈ l → p z = false → q z = true → (l.filter p).length + 1 ≤ (l.filter q).length
  | [], _, hz, _, _ => by cases hz
  | a :: r, h, hz, h1, h2 => by
    have hr : ∀ x ∈ r, p x = true → q x = true := fun x hx => h x (List.mem_cons_of_mem _ hx)
    have hle : ∀ l : List Int, (∀ x ∈ l, p x = true → q x = true) → (l.filter p).length ≤ (l.filter q).length := by
      intro l
      induction l with
      | nil => intro _; exact Nat.le_refl _
      | cons b s ih =>
        intro hs
        have := ih fun x hx => hs x (List.mem_cons_of_mem _ hx)
        rw [List.filter_cons, List.filter_cons]
        by_cases hp : p b = true
        · rw [if_pos hp, if_pos (hs b List.mem_cons_self hp)]; simpa using this
        · rw [if_neg hp]
          split
          · rw [List.length_cons]; omega
          · exact this
    rw [List.filter_cons, List.filter_cons]
    rcases List.mem_cons.mp hz with rfl | hz
    · rw [if_neg (by simp [h1]), if_pos h2, List.length_cons]
      exact Nat.succ_le_succ (hle r hr)
    · have ih := filter_grow hr hz h1 h2
      by_cases hp : p a = true
      · rw [if_pos hp, if_pos (h a List.mem_cons_self hp), List.length_cons, List.length_cons]; omega
      · rw [if_neg hp]
        split
        · rw [List.length_cons]; omega
        · exact ih
theorem BI.sat {bs : List (List Int)} (h : BI ks f bs) (hB : B ∈ bs) : Sat ks f (· ∈ B) := fun x hx => by
  by_cases hm : ∃ y ∈ f x, y ∈ B
  · exact .inl (h.cl x hx B hB hm)
  · exact .inr fun y hy hyB => hm ⟨y, hy, hyB⟩
theorem conv {bs : List (List Int)} (h : BI ks f bs) (h9 : ∀ x ∈ ks, ∀ y ∈ f x, y ≤ 9) (hB : B ∈ bs) (hm : μ ∈ B) (hμ : ∀ b ∈ B, μ ≤ b) : ∀ r, (∀ y ∈ B, lTurns ks f r y = μ) ∨ r + 1 ≤ (B.filter fun y => lTurns ks f r y == μ).length
  | 0 => by
    right
    have : μ ∈ B.filter fun y => lTurns ks f 0 y == μ := List.mem_filter.mpr ⟨hm, by simp [lTurns]⟩
    exact List.length_pos_of_mem this
  | r + 1 => by
    have hS := h.sat hB
    have hL := LI.turns h9 r
    have hkeep : ∀ y ∈ B, lTurns ks f r y = μ → lTurns ks f (r + 1) y = μ := fun y hy hg => LI.keeps h9 hS hμ hy ks (fun _ h => h) hL hg
    rcases conv h h9 hB hm hμ r with h1 | h1
    · exact .inl fun y hy => hkeep y hy (h1 y hy)
    · by_cases hall : ∀ y ∈ B, lTurns ks f r y = μ
      · exact .inl fun y hy => hkeep y hy (hall y hy)
      · right
        have hgm : lTurns ks f r μ = μ := Int.le_antisymm (hL.le μ) (hμ _ (hL.sat _ hS μ hm))
        have hns : ¬ Sat ks f (fun y => y ∈ B ∧ lTurns ks f r y = μ) := fun hsat => by
          rcases h.lk _ hsat B hB with h2 | h2
          · exact hall fun y hy => (h2 y hy).2
          · exact h2 μ hm ⟨hm, hgm⟩
        unfold Sat at hns
        simp only [Classical.not_forall] at hns
        obtain ⟨x, hx, hns⟩ := hns
        obtain ⟨hn1, hn2⟩ := not_or.mp hns
        simp only [Classical.not_forall, Classical.not_not] at hn1 hn2
        obtain ⟨y1, hy1, hy1B, hg1⟩ := hn2
        obtain ⟨y2, hy2, hn3⟩ := hn1
        have hy2B : y2 ∈ B := h.cl x hx B hB ⟨y1, hy1, hy1B⟩ y2 hy2
        have hg2 : lTurns ks f r y2 ≠ μ := fun e => hn3 ⟨hy2B, e⟩
        have hnew : lTurns ks f (r + 1) y2 = μ := LI.news h9 hS hμ hy1 hy1B hy2 hy2B ks (fun _ h => h) hx hL hg1
        have := filter_grow (p := fun y => lTurns ks f r y == μ) (q := fun y => lTurns ks f (r + 1) y == μ) (l := B) (z := y2) (fun y hy hp => by
          rw [beq_iff_eq] at hp ⊢; exact hkeep y hy hp) hy2B (by simpa using hg2) (by simpa using hnew)
        omega
noncomputable def leastF (ks : List Int) (f : Int → List Int) : Int → Int := lTurns ks f ks.length
theorem least_min {bs : List (List Int)} (h : BI ks f bs) (h9 : ∀ x ∈ ks, ∀ y ∈ f x, y ≤ 9) (hcl : ∀ x ∈ ks, ∀ y ∈ f x, y ∈ ks) (hB : B ∈ bs) (hm : μ ∈ B) (hμ : ∀ b ∈ B, μ ≤ b) : ∀ y ∈ B, leastF ks f y = μ := by
  rcases conv h h9 hB hm hμ ks.length with h1 | h1
  · exact h1
  · have h2 := List.length_filter_le (fun y => lTurns ks f ks.length y == μ) B
    have h3 := nd_len (h.nd B hB) (bs := ks) fun y hy => by
      obtain ⟨x, hx, hyx⟩ := (h.el y).mp ⟨B, hB, hy⟩
      exact hcl x hx y hyx
    omega
theorem exists_min : ∀ {B : List Int}, B ≠ [] → ∃ μ ∈ B, ∀ b ∈ B, μ ≤ b
  | [], h => absurd rfl h
  | [a], _ => ⟨a, List.mem_cons_self, fun b hb => by rw [List.mem_singleton.mp hb]; exact Int.le_refl _⟩
  | a :: c :: r, _ => by
    obtain ⟨μ, h1, h2⟩ := exists_min (B := c :: r) (by simp)
    rcases Int.le_total a μ with h | h
    · exact ⟨a, List.mem_cons_self, fun b hb => (List.mem_cons.mp hb).elim (fun e => by rw [e]; exact Int.le_refl _) fun hb => Int.le_trans h (h2 b hb)⟩
    · exact ⟨μ, List.mem_cons_of_mem _ h1, fun b hb => (List.mem_cons.mp hb).elim (fun e => by rw [e]; exact h) fun hb => h2 b hb⟩
noncomputable def behF (ks : List Int) (f : Int → List Int) : List Int := ks.filter fun y => !decide ((ks.filter fun x => decide (y ∈ f x)) = [])
noncomputable def rowF (ks : List Int) (f : Int → List Int) (nm : Int) : List Int := (behF ks f).filter fun y => leastF ks f y == nm
noncomputable def toldF (ks : List Int) (f : Int → List Int) : List (List Int) := (ks.map (rowF ks f)).filter fun r => !decide (r = [])
noncomputable def srt (l : List Int) : List Int := l.mergeSort fun a b => decide (a ≤ b)
theorem srt_perm {l : List Int} : (srt l).Perm l := List.mergeSort_perm _ _
theorem srt_le {l : List Int} : (srt l).Pairwise (· ≤ ·) := by
  have := List.pairwise_mergeSort (le := fun a b : Int => decide (a ≤ b)) (fun a b c => by simp only [decide_eq_true_eq]; exact Int.le_trans) (fun a b => by simp only [Bool.or_eq_true, decide_eq_true_eq]; exact Int.le_total a b) l
  exact this.imp fun h => of_decide_eq_true h
theorem beh_mem {y : Int} : y ∈ behF ks f ↔ y ∈ ks ∧ ∃ x ∈ ks, y ∈ f x := by
  unfold behF
  rw [List.mem_filter, Bool.not_eq_true', decide_eq_false_iff_not, List.filter_eq_nil_iff]
  simp
theorem strict_uniq {α : Type} {R : α → α → Prop} (has : ∀ a b, R a b → ¬ R b a) : ∀ {as bs : List α}, as.Pairwise R → bs.Pairwise R → (∀ x, x ∈ as ↔ x ∈ bs) → as = bs
  | [], [], _, _, _ => rfl
  | [], b :: r, _, _, h => absurd ((h b).mpr List.mem_cons_self) (by simp)
  | a :: r, [], _, _, h => absurd ((h a).mp List.mem_cons_self) (by simp)
  | a :: r, b :: q, ha, hb, h => by
    rw [List.pairwise_cons] at ha hb
    have e : a = b := by
      rcases List.mem_cons.mp ((h a).mp List.mem_cons_self) with e | h1
      · exact e
      · rcases List.mem_cons.mp ((h b).mpr List.mem_cons_self) with e | h2
        · exact e.symm
        · exact absurd (ha.1 b h2) (has _ _ (hb.1 a h1))
    subst e
    have irr : ∀ x, ¬ R x x := fun x hx => has x x hx hx
    rw [strict_uniq has ha.2 hb.2 fun x => ?_]
    constructor
    · intro hx
      rcases List.mem_cons.mp ((h x).mp (List.mem_cons_of_mem _ hx)) with rfl | h1
      · exact absurd (ha.1 x hx) (irr x)
      · exact h1
    · intro hx
      rcases List.mem_cons.mp ((h x).mpr (List.mem_cons_of_mem _ hx)) with rfl | h1
      · exact absurd (hb.1 x hx) (irr x)
      · exact h1
noncomputable def hdR (a b : List Int) : Prop := a.headD 0 < b.headD 0
theorem head_min {l : List Int} (hl : l.Pairwise (· ≤ ·)) (hm : μ ∈ l) (hμ : ∀ b ∈ l, μ ≤ b) : l.headD 0 = μ := by
  cases l with
  | nil => cases hm
  | cons a r =>
    rw [List.pairwise_cons] at hl
    show a = μ
    rcases List.mem_cons.mp hm with e | h
    · exact e.symm
    · exact Int.le_antisymm (hl.1 μ h) (hμ a List.mem_cons_self)
theorem srt_head (hm : μ ∈ B) (hμ : ∀ b ∈ B, μ ≤ b) : (srt B).headD 0 = μ := head_min srt_le (srt_perm.mem_iff.mpr hm) fun b hb => hμ b (srt_perm.mem_iff.mp hb)
theorem row_block {bs : List (List Int)} (h : BI ks f bs) (hks : ks.Pairwise (· ≤ ·)) (hkn : ks.Nodup) (h9 : ∀ x ∈ ks, ∀ y ∈ f x, y ≤ 9) (hcl : ∀ x ∈ ks, ∀ y ∈ f x, y ∈ ks) (hB : B ∈ bs) (hm : μ ∈ B) (hμ : ∀ b ∈ B, μ ≤ b) : rowF ks f μ = srt B := by
  have hb : behF ks f = behF ks f := rfl
  refine rising_mem ?_ srt_le ?_ (srt_perm.nodup_iff.mpr (h.nd B hB)) fun y => ?_
  · exact (hks.sublist List.filter_sublist).sublist List.filter_sublist
  · exact (hkn.sublist List.filter_sublist).sublist List.filter_sublist
  · unfold rowF
    rw [List.mem_filter, beh_mem, srt_perm.mem_iff, beq_iff_eq]
    constructor
    · rintro ⟨⟨hy, hx⟩, e⟩
      obtain ⟨B', hB', hyB'⟩ := (h.el y).mpr hx
      obtain ⟨μ', h1, h2⟩ := exists_min (h.ne B' hB')
      have e2 := least_min h h9 hcl hB' h1 h2 y hyB'
      rw [e] at e2
      subst e2
      rw [dj_eq h.dj hB hB' hm h1]; exact hyB'
    · intro hy
      have hx := (h.el y).mp ⟨B, hB, hy⟩
      obtain ⟨x, hx1, hx2⟩ := hx
      exact ⟨⟨hcl x hx1 y hx2, x, hx1, hx2⟩, least_min h h9 hcl hB hm hμ y hy⟩
theorem told_eq {bs out : List (List Int)} (h : BI ks f bs) (hks : ks.Pairwise (· ≤ ·)) (hkn : ks.Nodup) (h9 : ∀ x ∈ ks, ∀ y ∈ f x, y ≤ 9) (hcl : ∀ x ∈ ks, ∀ y ∈ f x, y ∈ ks) (hp : out.Perm (bs.map srt)) (ho : out.Pairwise hdR) : out = toldF ks f := by
  have hrow : ∀ nm ∈ ks, rowF ks f nm ≠ [] → ∃ B ∈ bs, nm ∈ B ∧ (∀ b ∈ B, nm ≤ b) ∧ rowF ks f nm = srt B := fun nm hnm hne => by
    obtain ⟨y, hy⟩ := List.exists_mem_of_ne_nil _ hne
    obtain ⟨hy1, hy2⟩ := List.mem_filter.mp hy
    obtain ⟨hy3, hx⟩ := beh_mem.mp hy1
    obtain ⟨B, hB, hyB⟩ := (h.el y).mpr hx
    obtain ⟨μ, h1, h2⟩ := exists_min (h.ne B hB)
    have e2 := least_min h h9 hcl hB h1 h2 y hyB
    rw [beq_iff_eq] at hy2
    rw [hy2] at e2
    subst e2
    exact ⟨B, hB, h1, h2, row_block h hks hkn h9 hcl hB h1 h2⟩
  refine strict_uniq (R := hdR) (fun a b h1 h2 => by unfold hdR at h1 h2; omega) ho ?_ fun r => ?_
  · unfold toldF
    rw [List.filter_map, List.pairwise_map]
    have hlt : ks.Pairwise (· < ·) := by
      have := hks.and hkn
      exact this.imp fun ⟨a, b⟩ => by omega
    refine (hlt.sublist List.filter_sublist).imp_of_mem fun {a b} ha hb hab => ?_
    obtain ⟨ha1, ha2⟩ := List.mem_filter.mp ha
    obtain ⟨hb1, hb2⟩ := List.mem_filter.mp hb
    obtain ⟨A, hA, a1, a2, ea⟩ := hrow a ha1 (by simpa using ha2)
    obtain ⟨B, hB, b1, b2, eb⟩ := hrow b hb1 (by simpa using hb2)
    unfold hdR
    rw [ea, eb, srt_head a1 a2, srt_head b1 b2]
    exact hab
  · rw [hp.mem_iff, List.mem_map]
    unfold toldF
    rw [List.mem_filter, List.mem_map]
    constructor
    · rintro ⟨B, hB, rfl⟩
      obtain ⟨μ, h1, h2⟩ := exists_min (h.ne B hB)
      obtain ⟨x, hx1, hx2⟩ := (h.el μ).mp ⟨B, hB, h1⟩
      refine ⟨⟨μ, hcl x hx1 μ hx2, row_block h hks hkn h9 hcl hB h1 h2⟩, ?_⟩
      have : srt B ≠ [] := List.ne_nil_of_mem (srt_perm.mem_iff.mpr h1)
      simpa using this
    · rintro ⟨⟨nm, hnm, rfl⟩, hne⟩
      obtain ⟨B, hB, _, _, e⟩ := hrow nm hnm (by simpa using hne)
      exact ⟨B, hB, e.symm⟩
end
end Mine

namespace Mine
set_option maxRecDepth 100000
open PySem PySem.W PyProof.Rows PySem.SeqAt
open AutoSeq1 (wpAny_loadPart')
open MeetsSeq MeetsSeq2 MeetsSeq3
/-! ### lists, the one less than the other by their heads -/
theorem lt_loop0 (l b : Addr) (items items2 : Array Value) (n n2 : Nat) (i j : Int) (t u : Tok) (hij : i ≠ j) (h1 : items[0]? = some (.int i t)) (h2 : items2[0]? = some (.int j u)) :
    Meets (Builtin.«list.__eq__.loop» ⟨[.ref l, .ref b, rawInt 0, rawInt 0], []⟩)
      (fun A R s => s.heap.get? l = some { cls := .type "list", data := .seq items n } ∧ s.heap.get? b = some { cls := .type "list", data := .seq items2 n2 } ∧
        (∀ tk, R (.ok (.ret (.bool (decide (i < j))))) { s with toks := tk })) := by
  intro prog w A R s h
  obtain ⟨hp, g, d, tk, os⟩ := s; obtain ⟨hl, hb, h⟩ := h
  wp_walk using wpAny_loadPart' hl, wpAny_loadPart' hb
  have hi1 : items[((0 : Int)).toNat]? = some (.int i t) := h1
  have hi2 : items2[((0 : Int)).toNat]? = some (.int j u) := h2
  rw [hi1, hi2]
  have hne : (i == j) = false := by simpa using hij
  refine wpAny_bind (EqAt.int_int i t j u prog w _ _ ?_)
  rw [hne]
  wp_walk using wpAny_loadPart' hl, wpAny_loadPart' hb
  rw [hi1, hi2]
  refine wpAny_bind ?_
  show wpAny (model prog w) _ (compareOp .Lt (.int i t) (.int j u)) _ _ _
  refine PyProof.Rows.lt_int ?_
  wp_walk
  exact h tk
theorem list_lt_at (l b : Addr) (items items2 : Array Value) (n n2 : Nat) (i j : Int) (t u : Tok) (hij : i ≠ j) (h1 : items[0]? = some (.int i t)) (h2 : items2[0]? = some (.int j u)) :
    Meets (Builtin.«list.__lt__» ⟨[.ref l, .ref b], []⟩)
      (fun A R s => s.heap.get? l = some { cls := .type "list", data := .seq items n } ∧ s.heap.get? b = some { cls := .type "list", data := .seq items2 n2 } ∧
        (∀ tk, R (.ok (.ret (.bool (decide (i < j))))) { s with toks := tk })) := by
  intro prog w A R s h
  obtain ⟨hp, g, d, tk, os⟩ := s; obtain ⟨hl, hb, h⟩ := h
  have f3 := AutoSeq1.sub_list_list
  wp_walk using wpAny_loadPart' hl, wpAny_loadPart' hb
  exact ⟨plainId_quiet plain_eq_loop _, codeAny_builtin entry_eq_loop (by
    rw [Around.under_plainId plain_eq_loop _]
    exact lt_loop0 l b items items2 n n2 i j t u hij h1 h2 prog w A R _ ⟨hl, hb, h⟩)⟩
theorem keyLt_lists {prog : Program} {w : World} {A : Around} {E : Value → Shared → Prop} {s : Shared} {Q : Bool → Shared → Prop} {l b : Addr} {items items2 : Array Value} {n n2 : Nat} {i j : Int} {t u : Tok} (hu : A.units < cLine) (hij : i ≠ j) (h1 : items[0]? = some (.int i t)) (h2 : items2[0]? = some (.int j u))
    (hl : s.heap.get? l = some { cls := .type "list", data := .seq items n }) (hb : s.heap.get? b = some { cls := .type "list", data := .seq items2 n2 }) (h : ∀ tk, Q (decide (i < j)) { s with toks := tk }) : wpAny (model prog w) A (keyLt' oneType' (.ref l) (.ref b)) Q E s := by
  rw [keyLt'_oneType, oneLt'_eq]
  simp only [if_true]
  refine wpAny_bind (wpAny_cRoomFor hu ?_)
  refine wpAny_bind (wpAny_callSpecialIfBound?_slot (T := "list") ⟨_, hl, rfl⟩ PySem.F.slot_list_lt (call_meets PySem.F.slot_list_lt ⟨_, hl, rfl⟩ PySem.F.entry_list_lt (PySem.F.args_list_lt_2 _ _) (list_lt_at l b items items2 n n2 i j t u hij h1 h2) ⟨hl, hb, fun tk => ?_⟩))
  exact wpAny_truthy_bool (h tk)
/-! ### the sort, step by step, by what the comparisons say -/
noncomputable def evalC {α : Type} (lt : Nat → Nat → Bool) (n : Nat) : KasT α → Option α
  | .ret a => some a
  | .ask i j k => if i < n ∧ j < n ∧ i ≠ j then evalC lt n (k (lt i j)) else none
theorem evalC_congr {α : Type} {lt lt' : Nat → Nat → Bool} {n : Nat} (h : ∀ i j, i < n → j < n → i ≠ j → lt i j = lt' i j) : ∀ t : KasT α, evalC lt n t = evalC lt' n t
  | .ret a => rfl
  | .ask i j k => by
    unfold evalC
    by_cases h1 : i < n ∧ j < n ∧ i ≠ j
    · rw [if_pos h1, if_pos h1, h i j h1.1 h1.2.1 h1.2.2]
      exact evalC_congr h (k _)
    · rw [if_neg h1, if_neg h1]
theorem kasWp_eval {α : Type} {cmp : Nat → Nat → (Bool → Shared → Prop) → Shared → Prop} {lt : Nat → Nat → Bool} {n : Nat} {Inv : Shared → Prop}
    (hc : ∀ s i j, Inv s → i < n → j < n → i ≠ j → ∀ Q : Bool → Shared → Prop, (∀ s', Inv s' → Q (lt i j) s') → cmp i j Q s) : ∀ (t : KasT α) {a : α} {G : α → Shared → Prop} {s : Shared}, evalC lt n t = some a → Inv s → (∀ s', Inv s' → G a s') → t.kasWp cmp G s
  | .ret a, b, G, s, e, hs, h => by
    obtain rfl := Option.some.inj e
    exact h s hs
  | .ask i j k, b, G, s, e, hs, h => by
    unfold evalC at e
    by_cases h1 : i < n ∧ j < n ∧ i ≠ j
    · rw [if_pos h1] at e
      exact hc s i j hs h1.1 h1.2.1 h1.2.2 _ fun s' hs' => kasWp_eval hc (k (lt i j)) e hs' h
    · rw [if_neg h1] at e; cases e
noncomputable def chk (l : List Nat) : Bool := match evalC (fun i j => decide (l.getD i 0 < l.getD j 0)) l.length (kas_sort l.length) with
  | some p => p.toList.all (· < l.length) && (p.toList.map fun i => l.getD i 0) == List.range l.length
  | none => false
noncomputable def tups (n : Nat) : Nat → List (List Nat)
  | 0 => [[]]
  | k + 1 => (tups n k).flatMap fun l => ((List.range n).filter fun a => !l.contains a).map fun a => a :: l
theorem chk2 : (tups 2 2).all chk = true := by decide +kernel
theorem chk3 : (tups 3 3).all chk = true := by decide +kernel
theorem chk4 : (tups 4 4).all chk = true := by decide +kernel
theorem chk5 : (tups 5 5).all chk = true := by decide +kernel
theorem mem_tups {n : Nat} : ∀ {l : List Nat}, (∀ x ∈ l, x < n) → l.Nodup → l ∈ tups n l.length
  | [], _, _ => List.mem_singleton.mpr rfl
  | a :: r, h, hn => by
    rw [List.nodup_cons] at hn
    refine List.mem_flatMap.mpr ⟨r, mem_tups (fun x hx => h x (List.mem_cons_of_mem _ hx)) hn.2, List.mem_map.mpr ⟨a, List.mem_filter.mpr ⟨List.mem_range.mpr (h a List.mem_cons_self), ?_⟩, rfl⟩⟩
    simpa using hn.1
theorem kas_table {l : List Nat} (h2 : 2 ≤ l.length) (h5 : l.length ≤ 5) (hb : ∀ x ∈ l, x < l.length) (hn : l.Nodup) :
    ∃ p : Array Nat, evalC (fun i j => decide (l.getD i 0 < l.getD j 0)) l.length (kas_sort l.length) = some p ∧ (∀ i ∈ p.toList, i < l.length) ∧ p.toList.map (fun i => l.getD i 0) = List.range l.length := by
  have hm := mem_tups hb hn
  have hc : chk l = true := by
    obtain e | e | e | e := (by decide : ∀ n, n ≤ 5 → 2 ≤ n → n = 2 ∨ n = 3 ∨ n = 4 ∨ n = 5) _ h5 h2
    all_goals rw [e] at hm
    · exact List.all_eq_true.mp chk2 l hm
    · exact List.all_eq_true.mp chk3 l hm
    · exact List.all_eq_true.mp chk4 l hm
    · exact List.all_eq_true.mp chk5 l hm
  unfold chk at hc
  split at hc
  · rename_i p hp
    rw [Bool.and_eq_true, List.all_eq_true, beq_iff_eq] at hc
    exact ⟨p, hp, fun i hi => by simpa using hc.1 i hi, hc.2⟩
  · cases hc
theorem filter_growN {p q : Nat → Bool} {z : Nat} : ∀ {l : List Nat}, (∀ x ∈ l, p x = true → q x = true) → z ∈ l → p z = false → q z = true → (l.filter p).length + 1 ≤ (l.filter q).length
  | [], _, hz, _, _ => by cases hz
  | a :: r, h, hz, h1, h2 => by
    have hr : ∀ x ∈ r, p x = true → q x = true := fun x hx => h x (List.mem_cons_of_mem _ hx)
    have hle : ∀ l : List Nat, (∀ x ∈ l, p x = true → q x = true) → (l.filter p).length ≤ (l.filter q).length := by
      intro l
      induction l with
      | nil => intro _; exact Nat.le_refl _
      | cons b s ih =>
        intro hs
        have := ih fun x hx => hs x (List.mem_cons_of_mem _ hx)
        rw [List.filter_cons, List.filter_cons]
        by_cases hp : p b = true
        · rw [if_pos hp, if_pos (hs b List.mem_cons_self hp)]; simpa using this
        · rw [if_neg hp]
          split
          · rw [List.length_cons]; omega
          · exact this
    rw [List.filter_cons, List.filter_cons]
    rcases List.mem_cons.mp hz with rfl | hz
    · rw [if_neg (by simp [h1]), if_pos h2, List.length_cons]
      exact Nat.succ_le_succ (hle r hr)
    · have ih := filter_growN hr hz h1 h2
      by_cases hp : p a = true
      · rw [if_pos hp, if_pos (h a List.mem_cons_self hp), List.length_cons, List.length_cons]; omega
      · rw [if_neg hp]
        split
        · rw [List.length_cons]; omega
        · exact ih
theorem sort5 {n : Nat} (h2 : 2 ≤ n) (h5 : n ≤ 5) {lt : Nat → Nat → Bool} (irr : ∀ i, lt i i = false) (tr : ∀ i j k, i < n → j < n → k < n → lt i j = true → lt j k = true → lt i k = true) (tot : ∀ i j, i < n → j < n → i ≠ j → lt i j = true ∨ lt j i = true) :
    ∃ p : Array Nat, evalC lt n (kas_sort n) = some p ∧ p.toList.Perm (List.range n) ∧ p.toList.Pairwise fun i j => lt i j = true := by
  obtain ⟨ρ, hρ⟩ : ∃ ρ : Nat → Nat, ρ = fun i => ((List.range n).filter fun j => lt j i).length := ⟨_, rfl⟩
  have hlt : ∀ i j, i < n → j < n → lt i j = true → ρ i < ρ j := fun i j hi hj h => by
    rw [hρ]
    refine filter_growN (z := i) (fun x hx hp => ?_) (List.mem_range.mpr hi) (irr i) h
    exact tr x i j (List.mem_range.mp hx) hi hj hp h
  have hbd : ∀ i, i < n → ρ i < n := fun i hi => by
    have := filter_growN (p := fun j => lt j i) (q := fun _ => true) (l := List.range n) (z := i) (fun _ _ _ => rfl) (List.mem_range.mpr hi) (irr i) rfl
    have h3 := List.length_filter_le (fun _ => true) (List.range n)
    rw [List.length_range] at h3
    rw [hρ]
    show ((List.range n).filter fun j => lt j i).length < n
    omega
  have hinj : ∀ i j, i < n → j < n → ρ i = ρ j → i = j := fun i j hi hj e => Classical.byContradiction fun hne => by
    rcases tot i j hi hj hne with h | h
    · have := hlt i j hi hj h; omega
    · have := hlt j i hj hi h; omega
  have hiff : ∀ i j, i < n → j < n → i ≠ j → lt i j = decide (ρ i < ρ j) := fun i j hi hj hne => by
    rw [Bool.eq_iff_iff, decide_eq_true_eq]
    refine ⟨hlt i j hi hj, fun h => ?_⟩
    rcases tot i j hi hj hne with h' | h'
    · exact h'
    · have := hlt j i hj hi h'; omega
  have hget : ∀ i, i < n → ((List.range n).map ρ).getD i 0 = ρ i := fun i hi => by simp [hi]
  have hlen : ((List.range n).map ρ).length = n := by rw [List.length_map, List.length_range]
  have hnd : ((List.range n).map ρ).Nodup := by
    rw [List.nodup_iff_pairwise_ne, List.pairwise_map]
    refine (List.nodup_iff_pairwise_ne.mp List.nodup_range).imp_of_mem fun {a b} ha hb hab e => hab (hinj a b (List.mem_range.mp ha) (List.mem_range.mp hb) e)
  obtain ⟨p, e, hp1, hp2⟩ := kas_table (l := (List.range n).map ρ) (by omega) (by omega) (fun x hx => by
    obtain ⟨i, hi, rfl⟩ := List.mem_map.mp hx
    rw [hlen]; exact hbd i (List.mem_range.mp hi)) hnd
  rw [hlen] at e hp1 hp2
  have hmap : p.toList.map ρ = List.range n := by
    rw [← hp2]
    exact List.map_congr_left fun i hi => (hget i (hp1 i hi)).symm
  refine ⟨p, ?_, ?_, ?_⟩
  · rw [← e]
    exact evalC_congr (fun i j hi hj hne => by rw [hiff i j hi hj hne, hget i hi, hget j hj]) _
  · have hpn : p.toList.Nodup := by
      have : (p.toList.map ρ).Nodup := by rw [hmap]; exact List.nodup_range
      exact List.Pairwise.of_map ρ (fun a b h e => h (by rw [e])) this
    refine (List.perm_ext_iff_of_nodup hpn List.nodup_range).mpr fun a => ⟨fun ha => List.mem_range.mpr (hp1 a ha), fun ha => ?_⟩
    have h1 : ρ a ∈ p.toList.map ρ := by rw [hmap]; exact List.mem_range.mpr (hbd a (List.mem_range.mp ha))
    obtain ⟨j, hj, ej⟩ := List.mem_map.mp h1
    rw [← hinj j a (hp1 j hj) (List.mem_range.mp ha) ej]; exact hj
  · have h1 : (p.toList.map ρ).Pairwise (· < ·) := by rw [hmap]; exact List.pairwise_lt_range
    rw [List.pairwise_map] at h1
    refine h1.imp_of_mem fun {a b} ha hb hab => ?_
    rw [hiff a b (hp1 a ha) (hp1 b hb) (fun e => by rw [e] at hab; omega)]
    exact decide_eq_true hab
end Mine

namespace Mine
set_option maxRecDepth 100000
open PySem PySem.W PyProof.Rows
open Sem (wp)
section
variable {prog : Program} {w : World} {A : Around} {E : Value → Shared → Prop} {s : Shared} {a : Addr} {vs : List Value}
theorem list_sort_k {n : Nat} {P : PySem.Fin → Shared → Prop} {κ : SortKind} {lt : Nat → Nat → Bool} {p : Array Nat} (ho : s.heap.get? a = some (seqObj "list" vs.toArray n)) (h2 : 2 ≤ vs.length) (h64 : vs.length < 64)
    (kind : ∀ s', (∀ b o, b ≠ a → s.heap.get? b = some o → s'.heap.get? b = some o) → s'.gens = s.gens → s'.os = s.os → ∀ Q' : SortKind → Shared → Prop, Q' κ s' → wpAny (model prog w) A (keyKind' vs.toArray) Q' E s')
    (cmp : ∀ s' i j, (∀ b o, b ≠ a → s.heap.get? b = some o → s'.heap.get? b = some o) → s'.gens = s.gens → s'.os = s.os → i < vs.length → j < vs.length → i ≠ j → ∀ Q' : Bool → Shared → Prop, (∀ tk, Q' (lt i j) { s' with toks := tk }) →
      wpAny (model prog w) A (keyLt' κ (vs.getD i Value.none) (vs.getD j Value.none)) Q' (fun _ _ => False) s')
    (ev : evalC lt vs.length (kas_sort vs.length) = some p)
    (h : ∀ tk, P (.done (.ret .none)) { s with heap := sortedHeap s.heap a vs (p.toList.map fun i => vs.getD i Value.none).toArray, toks := tk }) :
    wpAny (model prog w) A (Builtin.«list.sort» ⟨[.ref a], []⟩) P E s := by
  have ha : a < s.heap.objs.size := Heap.lt_size ho
  obtain ⟨e1, ho1⟩ : ∃ e1, (s.heap.update a (Obj.mapSeq fun _ => (#[] : Array Value))).get? a = some (seqObj "list" #[] e1) := ⟨_, get?_update_seq ho fun _ => #[]⟩
  have ho6 : (((s.heap.update a (Obj.mapSeq fun _ => (#[] : Array Value))).push (seqObj "tuple" vs.toArray 0)).push (seqObj "list" #[] 0)).get? a = some (seqObj "list" #[] e1) := Heap.get?_push_of_some _ (Heap.get?_push_of_some _ ho1)
  have hk : ∀ b o, b ≠ a → s.heap.get? b = some o → (((s.heap.update a (Obj.mapSeq fun _ => (#[] : Array Value))).push (seqObj "tuple" vs.toArray 0)).push (seqObj "list" #[] 0)).get? b = some o := fun b o hb e => by
    refine Heap.get?_push_of_some _ (Heap.get?_push_of_some _ ?_)
    rw [Heap.get?_update_ne _ _ _ _ hb]; exact e
  rw [list_sort_plain]
  refine wpAny_bind (listItems_at ho rfl ?_)
  refine wpAny_bind (listUpdate_at ho rfl ?_ (by rw [List.size_toArray, sizeLine_eq]; omega) (Nat.zero_le _))
  refine wpAny_bind (seqEpoch_at ho1 rfl ?_)
  refine wpAny_bind (wpAny_newTuple ?_ (by show vs.length ≤ _; rw [sizeLine_eq]; omega))
  refine wpAny_bind (wpAny_newList ?_ (Nat.zero_le _))
  refine wpAny_holding ?_
  show wpAny (model prog w) A _ P E { s with heap := ((s.heap.update a (Obj.mapSeq fun _ => (#[] : Array Value))).push (seqObj "tuple" vs.toArray 0)).push (seqObj "list" #[] 0) }
  dsimp only
  have hn2 : ¬ vs.toArray.size < 2 := by rw [List.size_toArray]; omega
  rw [if_neg hn2, if_neg hn2]
  refine wpAny_bind (kind { s with heap := ((s.heap.update a (Obj.mapSeq fun _ => (#[] : Array Value))).push (seqObj "tuple" vs.toArray 0)).push (seqObj "list" #[] 0) } hk rfl rfl _ ?_)
  have est : SortSt.mk' κ (vs.toArray.zip vs.toArray) #[] 7 none = kas_st κ (pairsOf vs) (List.toArray (List.range vs.length)) := by
    have e := kas_range (pairsOf vs)
    rw [pairsOf_size] at e
    show SortSt.mk' κ (pairsOf vs) #[] 7 none = SortSt.mk' κ ((List.toArray (List.range vs.length)).map (kas_item (pairsOf vs))) #[] 7 none
    rw [e]
  obtain ⟨h3, hh3⟩ : ∃ h3 : Heap, h3 = ((s.heap.update a (Obj.mapSeq fun _ => (#[] : Array Value))).push (seqObj "tuple" vs.toArray 0)).push (seqObj "list" #[] 0) := ⟨_, rfl⟩
  rw [← hh3] at ho6 hk ⊢
  have ask : (kas_sort vs.length).kasWp (kas_cmp prog w A κ (pairsOf vs)) (fun p' s' => p' = p ∧ ∃ tk, s' = { s with heap := h3, toks := tk }) { s with heap := h3 } := by
    rw [← kas_ask_eq]
    refine kasWp_eval (Inv := fun s' => ∃ tk, s' = { s with heap := h3, toks := tk }) (fun s' i j hs' hi hj hne Q hq => ?_) _ ev ⟨s.toks, rfl⟩ fun s' hs' => ⟨rfl, hs'⟩
    obtain ⟨tk, rfl⟩ := hs'
    exact cmp { s with heap := h3, toks := tk } i j hk rfl rfl hi hj hne _ fun tk' => hq _ ⟨tk', rfl⟩
  have run := kas_runs (E := E) (Q := fun _ st' s' => ∃ p' : Array Nat, p'.size = vs.length ∧ arrOf st' = p'.map (kas_item (pairsOf vs)) ∧ failedOf st' = none ∧ (p' = p ∧ ∃ tk, s' = { s with heap := h3, toks := tk }))
    h2 h64 (fun p' st' s' a1 a2 a3 a4 => ⟨p', a1, a2, a3, a4⟩) ask
  rw [← est] at run
  refine wpAny_bind (wpAny_mono run ?_ fun _ _ e => e)
  rintro ⟨⟨⟩, st'⟩ s' ⟨p', hp, har, hf, rfl, tk, rfl⟩
  dsimp only
  have hout : (arrOf st').map (·.2) = List.toArray (p'.toList.map fun i => vs.getD i Value.none) := by
    apply Array.toList_inj.mp
    rw [har, Array.map_map, Array.toList_map]
    exact List.map_congr_left fun i _ => by show (kas_item (pairsOf vs) i).2 = _; rw [kas_item_eq]
  have hsz : (List.toArray (p'.toList.map fun i => vs.getD i Value.none)).size = vs.length := by rw [List.size_toArray, List.length_map, Array.length_toList, hp]
  rw [hout]
  refine wpAny_bind (seqEpoch_at ho6 rfl ?_)
  refine wpAny_bind (listUpdate_at ho6 rfl ?_ (Nat.zero_le _) (Nat.le_trans (Nat.le_of_eq hsz) (by rw [sizeLine_eq]; omega)))
  rw [hf]
  simp only [bne_self_eq_false, Bool.false_eq_true, if_false]
  refine wpAny_pure ?_
  have := h tk
  unfold sortedHeap at this
  rw [hh3]
  exact this
theorem list_sort_1 {n : Nat} {P : PySem.Fin → Shared → Prop} (ho : s.heap.get? a = some (seqObj "list" vs.toArray n)) (h2 : vs.length < 2)
    (h : P (.done (.ret .none)) { s with heap := sortedHeap s.heap a vs vs.toArray }) : wpAny (model prog w) A (Builtin.«list.sort» ⟨[.ref a], []⟩) P E s := by
  obtain ⟨e1, ho1⟩ : ∃ e1, (s.heap.update a (Obj.mapSeq fun _ => (#[] : Array Value))).get? a = some (seqObj "list" #[] e1) := ⟨_, get?_update_seq ho fun _ => #[]⟩
  have ho6 : (((s.heap.update a (Obj.mapSeq fun _ => (#[] : Array Value))).push (seqObj "tuple" vs.toArray 0)).push (seqObj "list" #[] 0)).get? a = some (seqObj "list" #[] e1) := Heap.get?_push_of_some _ (Heap.get?_push_of_some _ ho1)
  rw [list_sort_plain]
  refine wpAny_bind (listItems_at ho rfl ?_)
  refine wpAny_bind (listUpdate_at ho rfl ?_ (by rw [List.size_toArray, sizeLine_eq]; omega) (Nat.zero_le _))
  refine wpAny_bind (seqEpoch_at ho1 rfl ?_)
  refine wpAny_bind (wpAny_newTuple ?_ (by show vs.length ≤ _; rw [sizeLine_eq]; omega))
  refine wpAny_bind (wpAny_newList ?_ (Nat.zero_le _))
  refine wpAny_holding ?_
  show wpAny (model prog w) A _ P E { s with heap := ((s.heap.update a (Obj.mapSeq fun _ => (#[] : Array Value))).push (seqObj "tuple" vs.toArray 0)).push (seqObj "list" #[] 0) }
  dsimp only
  have hn2 : vs.toArray.size < 2 := by rw [List.size_toArray]; exact h2
  rw [if_pos hn2, if_pos hn2]
  refine wpAny_bind (wpAny_pure ?_)
  rw [StateT.run_pure]
  refine wpAny_bind (wpAny_pure ?_)
  dsimp only
  have hout : (arrOf (SortSt.mk' general' (vs.toArray.zip vs.toArray) #[] 7 none)).map (·.2) = vs.toArray := by
    show ((vs.toArray.zip vs.toArray)).map (·.2) = _
    rw [List.zip_toArray, List.map_toArray]
    congr 1
    rw [List.map_snd_zip (Nat.le_refl _)]
  rw [hout]
  refine wpAny_bind (seqEpoch_at ho6 rfl ?_)
  refine wpAny_bind (listUpdate_at ho6 rfl ?_ (Nat.zero_le _) (by rw [List.size_toArray, sizeLine_eq]; omega))
  simp only [bne_self_eq_false, Bool.false_eq_true, if_false]
  exact wpAny_pure h
end
section
variable {α : Type} {C : Cfg} {A A' : Around} {fx fx' : Fx} {m m' m₁ : Lo} {H H' H₁ : AH} {X : Value → Lo → AH → Prop} {K : Frag} {s s' s₁ : Shared} {Q : Value → Lo → AH → Prop}
theorem call_sorted_k {l : Addr} {xs : List Value} {κ : SortKind} {lt : Nat → Nat → Bool} (hl : (l, AO.list xs) ∈ H) (h5 : xs.length ≤ 5)
    (irr : ∀ i, lt i i = false) (tr : ∀ i j k, i < xs.length → j < xs.length → k < xs.length → lt i j = true → lt j k = true → lt i k = true) (tot : ∀ i j, i < xs.length → j < xs.length → i ≠ j → lt i j = true ∨ lt j i = true)
    (kind : ∀ (A' : Around) (E : Value → Shared → Prop) (s' : Shared) (vs : List Value), A'.units ≤ A.units + 2 → St C A fx m H s' → vs.map er = xs → 2 ≤ vs.length → ∀ Q' : SortKind → Shared → Prop, Q' κ s' → wpAny (model C.prog C.w) A' (keyKind' vs.toArray) Q' E s')
    (cmp : ∀ (A' : Around) (s' : Shared) (vs : List Value) i j, A'.units ≤ A.units + 2 → St C A fx m H s' → vs.map er = xs → i < xs.length → j < xs.length → i ≠ j → ∀ Q' : Bool → Shared → Prop, (∀ tk, Q' (lt i j) { s' with toks := tk }) →
      wpAny (model C.prog C.w) A' (keyLt' κ (vs.getD i Value.none) (vs.getD j Value.none)) Q' (fun _ _ => False) s')
    (h : ∀ (a : Addr) (p : List Nat), a ∉ H.keys → p.Perm (List.range xs.length) → p.Pairwise (fun i j => lt i j = true) → Q (.ref a) m ((a, .list (p.map fun i => xs.getD i Value.none)) :: H)) : CALL C A fx (.builtin "sorted") [.ref l] m H Q X := fun g vs hg hvs => by
  obtain rfl := er_eq_builtin hg
  obtain ⟨a, rfl, ha⟩ := er1 hvs
  obtain rfl := er_eq_ref ha
  intro s S
  obtain ⟨vs, ⟨o, ho, hc, n, hd⟩, h2⟩ := S.isList hl
  have hlen : vs.toList.length = xs.length := by rw [← h2, List.length_map]
  have hsz : vs.size = xs.length := by rw [← hlen, Array.length_toList]
  refine Calls.call_function_entry kind_sorted plain_sorted entry_sorted (args_sorted1 _) ?_
  unfold Builtin.«sorted»
  refine wpAny_bind (m := checkCount "sorted" 1 1 _) (wpAny_pure ?_)
  refine wpAny_bind (wpAny_collect_seq l (.inl rfl) ho hc hd (fun h' hk => ?_) (by rw [sizeLine_eq]; omega))
  refine wpAny_bind (wpAny_newList ?_ (by rw [sizeLine_eq]; omega))
  have ho' : (h'.push (seqObj "list" vs.toList.toArray 0)).get? h'.objs.size = some (seqObj "list" vs.toList.toArray 0) := Heap.get?_push_size _ rfl
  obtain ⟨S', E'⟩ := S.keeps (s' := { s with heap := h' }) hk
  have hn : h'.get? h'.objs.size = none := none_of_le (Nat.le_refl _)
  have keepP : ∀ b o, h'.get? b = some o → (h'.push (seqObj "list" vs.toList.toArray 0)).get? b = some o := fun b o e => by
    rw [Heap.get?_push_ne _ _ _ (Nat.ne_of_lt (Heap.lt_size e))]; exact e
  have hSt : ∀ s'' : Shared, (∀ b o, b ≠ h'.objs.size → (h'.push (seqObj "list" vs.toList.toArray 0)).get? b = some o → s''.heap.get? b = some o) → s''.gens = s.gens → s''.os = s.os → St C A fx m H s'' := fun s'' k1 k2 k3 =>
    (S'.keeps (s' := s'') (fun b o e => k1 b o (fun eb => by rw [eb, hn] at e; cases e) (keepP b o e)) k2 k3).1
  have done : ∀ (tk : Nat) (p : List Nat) (out : Array Value), p.Perm (List.range xs.length) → p.Pairwise (fun i j => lt i j = true) → out.toList.map er = p.map (fun i => xs.getD i Value.none) →
      ∃ m' H', St C A fx m' H' { s with heap := sortedHeap (h'.push (seqObj "list" vs.toList.toArray 0)) h'.objs.size vs.toList out, toks := tk } ∧
        Ext A fx H s H' { s with heap := sortedHeap (h'.push (seqObj "list" vs.toList.toArray 0)) h'.objs.size vs.toList out, toks := tk } ∧ Q (.ref h'.objs.size) m' H' := fun tk p out hp hpw hout => by
    obtain ⟨e, he⟩ := sortedHeap_at (out := out) ho'
    obtain ⟨S₂, E₂⟩ := S'.new (s' := { s with heap := sortedHeap (h'.push (seqObj "list" vs.toList.toArray 0)) h'.objs.size vs.toList out, toks := tk }) (ao := .list (p.map fun i => xs.getD i Value.none)) hn (fun b o eb => by
      have hlt := Heap.lt_size eb
      have h1 : b < (h'.push (seqObj "list" vs.toList.toArray 0)).objs.size := by rw [size_push']; exact Nat.lt_succ_of_lt hlt
      have h3 := sortedHeap_old (h := h'.push (seqObj "list" vs.toList.toArray 0)) (vs := vs.toList) (out := out) (Nat.ne_of_lt hlt) h1
      rw [h3]; exact keepP b o eb) he ⟨rfl, ⟨rfl, rfl⟩, _, _, rfl, hout⟩
    exact ⟨m, _, S₂, E'.trans E₂, h _ p (fun hm => Nat.lt_irrefl _ (S'.key_lt hm)) hp hpw⟩
  have hget : ∀ i, er (vs.toList.getD i Value.none) = xs.getD i Value.none := fun i => by
    rw [← h2]
    simp only [List.getD_eq_getElem?_getD, List.getElem?_map]
    cases vs.toList[i]? <;> rfl
  by_cases hn2 : vs.toList.length < 2
  · refine wpAny_bind (wpAny_holding (wpAny_call_entry slot_list_sort ⟨_, ho', rfl⟩ entry_list_sort (list_sort_1 ho' hn2 ⟨_, rfl, ?_⟩) (args_list_sort _)))
    refine wpAny_pure ⟨_, rfl, ?_⟩
    refine done s.toks (List.range xs.length) _ (List.Perm.refl _) ?_ ?_
    · match hx : xs.length with
      | 0 => exact List.Pairwise.nil
      | 1 => exact List.pairwise_singleton _ _
      | k + 2 => omega
    · show vs.toList.map er = _
      rw [h2]
      refine List.ext_getElem (by simp) fun i h1 h3 => ?_
      simp [h1]
  · obtain ⟨p, ev, hp, hpw⟩ := sort5 (n := xs.length) (by omega) h5 irr tr tot
    refine wpAny_bind (wpAny_holding (wpAny_call_entry slot_list_sort ⟨_, ho', rfl⟩ entry_list_sort (list_sort_k (κ := κ) (lt := lt) (p := p) ho' (by omega) (by omega) (fun s'' k1 k2 k3 Q' hq => kind _ _ s'' vs.toList ?hu1 (hSt s'' k1 k2 k3) h2 (by omega) Q' hq)
      (fun s'' i j k1 k2 k3 hi hj hne Q' hq => cmp _ s'' vs.toList i j ?hu2 (hSt s'' k1 k2 k3) h2 (by omega) (by omega) hne Q' hq) (by rw [hlen]; exact ev) fun tk => ⟨_, rfl, ?_⟩) (args_list_sort _)))
    case hu1 => show A.units + 1 + 1 ≤ A.units + 2; omega
    case hu2 => show A.units + 1 + 1 ≤ A.units + 2; omega
    refine wpAny_pure ⟨_, rfl, ?_⟩
    refine done tk p.toList _ hp hpw ?_
    rw [List.map_map]
    exact List.map_congr_left fun i _ => hget i
theorem looks_ref {M : Model} {h : Heap} {l : Addr} {o : Obj} {T : String} (ho : h.get? l = some o) (hc : o.cls = .type T) : Looks M h (typeOf (.ref l)) (.type T) :=
  fun A' Q' E s' k q => wpAny_typeOf ⟨_, k _ _ ho, hc⟩ q
theorem getD_mem' {α : Type} {l : List α} {i : Nat} {d : α} (h : i < l.length) : l.getD i d ∈ l := by
  rw [List.getD_eq_getElem?_getD, List.getElem?_eq_getElem h]; exact List.getElem_mem h
theorem call_sorted_ll {l : Addr} {ls : List (Addr × List Int)} (hu : A.units + 10 < cLine) (hl : (l, AO.list (ls.map fun p => Value.ref p.1)) ∈ H) (hm : ∀ p ∈ ls, (p.1, AO.list (iv p.2)) ∈ H) (h5 : ls.length ≤ 5)
    (hne : ∀ p ∈ ls, p.2 ≠ []) (hd : (ls.map fun p => p.2.headD 0).Nodup)
    (h : ∀ (a : Addr) (ls' : List (Addr × List Int)), a ∉ H.keys → ls'.Perm ls → (ls'.map (·.2)).Pairwise hdR → Q (.ref a) m ((a, .list (ls'.map fun p => Value.ref p.1)) :: H)) : CALL C A fx (.builtin "sorted") [.ref l] m H Q X := by
  have hlen : (ls.map fun p => Value.ref p.1).length = ls.length := List.length_map _
  have hgd : ∀ i, i < ls.length → (ls.map fun p => Value.ref p.1).getD i Value.none = .ref (ls.getD i (0, [])).1 := fun i hi => by simp [hi]
  have hhd : ∀ i, i < ls.length → ∃ x r, (ls.getD i (0, [])).2 = x :: r := fun i hi => by
    cases e : (ls.getD i (0, [])).2 with
    | nil => exact absurd e (hne _ (getD_mem' hi))
    | cons x r => exact ⟨x, r, rfl⟩
  have hdis : ∀ i j, i < ls.length → j < ls.length → i ≠ j → (ls.getD i (0, [])).2.headD 0 ≠ (ls.getD j (0, [])).2.headD 0 := fun i j hi hj hne' e => by
    have h1 := List.nodup_iff_pairwise_ne.mp hd
    rw [List.pairwise_map, List.pairwise_iff_getElem] at h1
    have gi : ls.getD i (0, []) = ls[i] := by simp [hi]
    have gj : ls.getD j (0, []) = ls[j] := by simp [hj]
    rw [gi, gj] at e
    rcases Nat.lt_or_gt_of_ne hne' with hlt | hlt
    · exact h1 i j hi hj hlt e
    · exact h1 j i hj hi hlt e.symm
  refine call_sorted_k (κ := oneType') (lt := fun i j => decide ((ls.getD i (0, [])).2.headD 0 < (ls.getD j (0, [])).2.headD 0)) hl (by rw [hlen]; exact h5) (fun i => by simp) (fun i j k _ _ _ h1 h2 => ?_) (fun i j hi hj hne' => ?_) (fun A' E s' vs hu' S hvs h2 Q' hq => ?_) (fun A' s' vs i j hu' S hvs hi hj hne' Q' hq => ?_) fun a p ha hp hpw => ?_
  · rw [decide_eq_true_eq] at h1 h2 ⊢; omega
  · rw [hlen] at hi hj
    have := hdis i j hi hj hne'
    simp only [decide_eq_true_eq]; omega
  · refine kas_kind (T := .type "list") h2 (fun v hv => ?_) (by decide) (by decide) hq
    have : er v ∈ ls.map fun p => Value.ref p.1 := by rw [← hvs]; exact List.mem_map_of_mem hv
    obtain ⟨p, hp, e⟩ := List.mem_map.mp this
    obtain rfl := er_eq_ref e.symm
    obtain ⟨us, n, hL, _⟩ := S.isL (hm p hp)
    exact looks_ref hL rfl
  · rw [hlen] at hi hj
    have hv : ∀ i, i < ls.length → vs.getD i Value.none = .ref (ls.getD i (0, [])).1 := fun i hi => by
      have h1 : er (vs.getD i Value.none) = (ls.map fun p => Value.ref p.1).getD i Value.none := by
        rw [← hvs]
        simp only [List.getD_eq_getElem?_getD, List.getElem?_map]
        cases vs[i]? <;> rfl
      rw [hgd i hi] at h1
      exact er_eq_ref h1
    rw [hv i hi, hv j hj]
    obtain ⟨x, r, ex⟩ := hhd i hi
    obtain ⟨y, q, ey⟩ := hhd j hj
    obtain ⟨us, n, hL, hus⟩ := S.isL (hm _ (getD_mem' hi))
    obtain ⟨ws, n2, hL2, hws⟩ := S.isL (hm _ (getD_mem' hj))
    rw [ex] at hus
    rw [ey] at hws
    have h0 : ∀ {us : Array Value} {x : Int} {r : List Int}, us.toList.map er = iv (x :: r) → ∃ t, us[0]? = some (.int x t) := fun {us x r} hus => by
      obtain ⟨v, e1, e2⟩ := er_get (k := 0) (v := vI x) hus rfl
      obtain ⟨t, rfl⟩ := er_eq_int e2
      exact ⟨t, e1⟩
    obtain ⟨t, e1⟩ := h0 hus
    obtain ⟨u, e2⟩ := h0 hws
    have hxy : x ≠ y := by
      have := hdis i j hi hj hne'
      rw [ex, ey] at this; exact this
    refine keyLt_lists (by omega) hxy e1 e2 hL hL2 fun tk => ?_
    have := hq tk
    rw [ex, ey] at this
    exact this
  · have hp2 : p.Perm (List.range ls.length) := by rw [← hlen]; exact hp
    have hin : ∀ i ∈ p, i < ls.length := fun i hi => List.mem_range.mp (hp2.mem_iff.mp hi)
    have e1 : p.map (fun i => (ls.map fun p => Value.ref p.1).getD i Value.none) = (p.map fun i => ls.getD i (0, [])).map fun p => Value.ref p.1 := by
      rw [List.map_map]
      exact List.map_congr_left fun i hi => hgd i (hin i hi)
    rw [e1]
    refine h a _ ha ?_ ?_
    · have h1 := hp2.map fun i => ls.getD i (0, [])
      have e2 : (List.range ls.length).map (fun i => ls.getD i (0, [])) = ls := by
        refine List.ext_getElem (by simp) fun i h1 h2 => ?_
        simp [h2]
      rw [e2] at h1
      exact h1
    · rw [List.map_map, List.pairwise_map]
      exact hpw.imp fun h => of_decide_eq_true h
theorem co_in_tup {l : Addr} {ns : List Int} {k : Int} (hl : (l, AO.tup (iv ns)) ∈ H) (h : Q (.bool (decide (k ∈ ns))) m H) : CO C A fx .In (vI k) (.ref l) m H Q X := fun a b ha hb => by
  obtain ⟨t, rfl⟩ := er_eq_int ha
  obtain rfl := er_eq_ref hb
  intro s S
  obtain ⟨vs, h1, h2⟩ := S.isTup hl
  obtain ⟨o, ho, hc, n, hd⟩ := h1
  refine PySem.SeqAt.in_tupleAt (fun v => match v with | .int i _ => i == k | _ => false) ⟨o, ho, hc, n, hd⟩ (fun y hy => ?_) ⟨m, H, S, Ext.refl' S, ?_⟩
  · have : er y ∈ iv ns := by rw [← h2]; exact List.mem_map_of_mem (Array.mem_toList_iff.mpr hy)
    obtain ⟨i, _, e⟩ := List.mem_map.mp this
    obtain ⟨u, rfl⟩ := er_eq_int e.symm
    exact PySem.SeqAt.EqAt.int_int i u k t
  · have e : (vs.any fun v => match v with | .int i _ => i == k | _ => false) = decide (k ∈ ns) := by
      rw [← Array.any_toList, Bool.eq_iff_iff, decide_eq_true_eq, List.any_eq_true]
      constructor
      · rintro ⟨v, hv, he⟩
        have : er v ∈ iv ns := by rw [← h2]; exact List.mem_map_of_mem hv
        obtain ⟨i, hi, e⟩ := List.mem_map.mp this
        obtain ⟨u, rfl⟩ := er_eq_int e.symm
        have : i = k := by simpa using he
        exact this ▸ hi
      · intro hk
        have : vI k ∈ vs.toList.map er := by rw [h2]; exact List.mem_map_of_mem hk
        obtain ⟨v, hv, e⟩ := List.mem_map.mp this
        obtain ⟨u, rfl⟩ := er_eq_int e
        exact ⟨_, hv, by simp⟩
    show Q (.bool _) m H
    rw [e]; exact h
end
end Mine

namespace Mine
set_option maxRecDepth 100000
open PySem PySem.W PyProof.Rows
open Sem (wp)
theorem pylong2 (t : Int) : ∀ k : Nat, k ≤ 8000 → Builtin.divisionGoesByPylong t (2 ^ k) = false := by
  intro k hk
  have e : (2 ^ k : Int).natAbs = 2 ^ k := by
    rw [Int.natAbs_pow]; rfl
  unfold Builtin.divisionGoesByPylong
  simp only [Bool.and_eq_false_iff]
  left
  refine decide_eq_false ?_
  have h0 : ((2 ^ k : Int) == 0) = false := by
    have := Int.pow_pos (n := 2) (m := k) (by decide)
    simp; omega
  rw [h0, e, Nat.log2_two_pow]
  simp
  exact Nat.div_le_of_le_mul (le_N hk rfl)
theorem pylong4 (t : Int) {k : Nat} (hk : k ≤ 4000) : Builtin.divisionGoesByPylong t (4 ^ k) = false := by
  have e : (4 : Int) ^ k = 2 ^ (2 * k) := by rw [Int.pow_mul]; rfl
  rw [e]
  exact pylong2 t _ (by omega)
theorem int_pow4_ne (k : Nat) : (4 : Int) ^ k ≠ 0 := by
  have := Int.pow_pos (n := 4) (m := k) (by decide); omega
section
variable {C : Cfg} {A : Around} {fx : Fx} {m : Lo} {H : AH} {X : Value → Lo → AH → Prop} {Q : Value → Lo → AH → Prop}
theorem bo_pow4 {j : Int} (h0 : 0 ≤ j) (hj : j ≤ 8000) (h : Q (vI (4 ^ j.toNat)) m H) : BO C A fx .Pow (vI 4) (vI j) m H Q X := by
  refine bo_pow h0 ?_ h
  have : Builtin.Int.intBits 4 = 3 := by decide
  rw [this]; omega
theorem call_range' {n : Int} (h0 : 0 ≤ n) (h : ∀ a, a ∉ H.keys → Q (.ref a) m ((a, .flds (.type "range") [vI 0, vI (n.toNat : Int), vI 1]) :: H)) : CALL C A fx (.type "range") [vI n] m H Q X := by
  have e : n = (n.toNat : Int) := by omega
  refine (?_ : CALL C A fx (.type "range") [vI n] m H Q X)
  rw [e]
  exact call_range h
end
end Mine

namespace Mine
set_option maxRecDepth 100000
open PySem PySem.W PyProof.Rows
open Sem (wp)
/-! ### lists of lists -/
noncomputable def refsL (ls : List (Addr × List Int)) : List Value := ls.map fun p => Value.ref p.1
noncomputable def InL (H : AH) (ls : List (Addr × List Int)) : Prop := ∀ p ∈ ls, (p.1, AO.list (iv p.2)) ∈ H
theorem InL.wk {H H' : AH} {ls : List (Addr × List Int)} (h : InL H ls) (hW : Wk H' H) : InL H' ls := fun p hp => hW.1 _ (h p hp)
theorem refsL_len {ls : List (Addr × List Int)} : (refsL ls).length = ls.length := by unfold refsL; rw [List.length_map]
section
variable {ks xs : List Int} {f : Int → List Int} {bs : List (List Int)}
theorem BI.in_ (h : BI xs f bs) (hxs : ∀ x ∈ xs, ∀ y ∈ f x, y ∈ ks) : ∀ b ∈ bs, ∀ y ∈ b, y ∈ ks := fun b hb y hy => by
  obtain ⟨x, hx, hyx⟩ := (h.el y).mp ⟨b, hb, hy⟩
  exact hxs x hx y hyx
theorem BI.blen (h : BI xs f bs) (hxs : ∀ x ∈ xs, ∀ y ∈ f x, y ∈ ks) : ∀ b ∈ bs, b.length ≤ ks.length := fun b hb => nd_len (h.nd b hb) (h.in_ hxs b hb)
theorem BI.heads (h : BI xs f bs) : (bs.map fun b => b.headD 0).Nodup ∧ ∀ b ∈ bs, b.headD 0 ∈ b := by
  have h1 : ∀ b ∈ bs, b.headD 0 ∈ b := fun b hb => by
    cases e : b with
    | nil => exact absurd e (h.ne b hb)
    | cons a r => exact List.mem_cons_self
  refine ⟨?_, h1⟩
  rw [List.nodup_iff_pairwise_ne, List.pairwise_map]
  exact h.dj.imp_of_mem fun {a b} ha hb hd e => hd _ (h1 a ha) (e ▸ h1 b hb)
theorem BI.len (h : BI xs f bs) (hxs : ∀ x ∈ xs, ∀ y ∈ f x, y ∈ ks) : bs.length ≤ ks.length := by
  have := nd_len h.heads.1 (bs := ks) fun y hy => by
    obtain ⟨b, hb, rfl⟩ := List.mem_map.mp hy
    exact h.in_ hxs b hb _ (h.heads.2 b hb)
  rwa [List.length_map] at this
theorem blocks_take {i : Nat} (hn : ∀ x ∈ ks, (f x).Nodup) : BI (ks.take i) f ((ks.take i).foldl (blkStep f) []) := by
  have := blocks_fold (ks.take i) (fun x hx => hn x (List.mem_of_mem_take hx)) (BI.nil (f := f))
  rwa [List.nil_append] at this
end
end Mine

namespace Mine
set_option maxRecDepth 100000
open PySem PySem.W PyProof.Rows
open Sem (wp)
theorem kvF_congr {ks : List Int} {g g' : Int → Int} (h : ∀ z ∈ ks, g z = g' z) : kvF ks g = kvF ks g' := by
  unfold kvF
  exact List.map_congr_left fun z hz => by rw [h z hz]
theorem stored_kvF {ks : List Int} {g : Int → Int} {y v : Int} (hy : y ∈ ks) : stored (kvF ks g) y (vI v) = kvF ks (fun z => if z = y then v else g z) := by
  unfold stored
  have h1 : ((kvF ks g).any fun kv => decide (kv.1 = y)) = true := by
    rw [List.any_eq_true]
    exact ⟨(y, vI (g y)), List.mem_map.mpr ⟨y, hy, rfl⟩, by simp⟩
  rw [if_pos h1]
  unfold kvF
  rw [List.map_map]
  refine List.map_congr_left fun z _ => ?_
  simp only [Function.comp]
  by_cases e : z = y
  · rw [if_pos e, if_pos e, e]
  · rw [if_neg e, if_neg e]
end Mine

namespace Mine
set_option maxRecDepth 100000
open PySem PySem.W PyProof.Rows
open Sem (wp)
section
variable {α : Type} {C : Cfg} {A A' : Around} {fx fx' : Fx} {m m' m₁ : Lo} {H H' H₁ : AH} {X : Value → Lo → AH → Prop} {K : Frag} {s s' s₁ : Shared}
theorem asg_tup3 {t : Addr} {x y z : Value} {a b c : PySem.Expr} {x1 : _} {pos : Pos} {Q : Lo → AH → Prop} (hA : A.handled = none) (ht : (t, AO.tup [x, y, z]) ∈ H) (h : ASG C A fx a x m H (fun m₁ H₁ => ASG C A fx b y m₁ H₁ (fun m₂ H₂ => ASG C A fx c z m₂ H₂ Q X) X) X)
    (he : assignEach [a, b, c] fx.env = [(false, assign a fx.env), (false, assign b fx.env), (false, assign c fx.env)]) : ASG C A fx (.Tuple [a, b, c] x1 pos) (.ref t) m H Q X := fun v hv => by
  obtain rfl := er_eq_ref hv
  rw [arm_assign_Tuple, he]
  refine aw_bind (aw_standAt ?_)
  unfold unpack
  refine aw_bind (aw_holding (aw_unpackItems (n := 3) hA ht rfl fun vs hvs => ?_))
  obtain ⟨p, q, r, rfl, hp, hq, hr⟩ := er3 hvs
  show AW C A fx (assignInOrder [assign a fx.env, assign b fx.env, assign c fx.env] [p, q, r]) m H _ X
  unfold assignInOrder
  refine aw_bind (aw_holding (aw_mono (h p hp) (fun _ m₁ H₁ h₁ => ?_) fun _ _ _ z => z))
  unfold assignInOrder
  refine aw_bind (aw_holding (aw_mono (h₁ q hq) (fun _ m₂ H₂ h₂ => ?_) fun _ _ _ z => z))
  unfold assignInOrder
  refine aw_bind (aw_holding (aw_mono (h₂ r hr) (fun _ m₃ H₃ h₃ => ?_) fun _ _ _ z => z))
  unfold assignInOrder
  exact aw_pure h₃
theorem wk_sw {S S' R : AH} : Wk (S ++ (S' ++ R)) (S' ++ (S ++ R)) := by
  refine Wk.perm ?_
  rw [← List.append_assoc, ← List.append_assoc]
  exact List.perm_append_comm.append_right _
theorem wk_two {p : Addr × AO} {S S' R : AH} : Wk (p :: (S ++ (S' ++ R))) (S' ++ (S ++ p :: R)) := by
  refine Wk.perm ?_
  refine (List.Perm.cons _ ?_).trans ((List.perm_middle (l₁ := S')).symm.trans (List.Perm.append_left S' (List.perm_middle (l₁ := S)).symm))
  rw [← List.append_assoc, ← List.append_assoc]
  exact List.perm_append_comm.append_right _
theorem wk_in {p : Addr × AO} {S S' R : AH} : Wk (S ++ (p :: (S' ++ R))) (S' ++ (S ++ p :: R)) := by
  refine Wk.perm ?_
  refine (List.Perm.append_left S (List.perm_middle (l₁ := S')).symm).trans ?_
  rw [← List.append_assoc, ← List.append_assoc]
  exact List.perm_append_comm.append_right _
theorem wk_four {p q r : Addr × AO} {S S' R : AH} : Wk (p :: (S ++ (q :: (S' ++ (r :: R))))) (S' ++ (S ++ (p :: q :: r :: R))) := by
  refine Wk.perm ?_
  refine (List.perm_middle (l₁ := S)).symm.trans ((List.Perm.append_left S ((List.Perm.cons p (List.perm_middle (l₁ := S')).symm).trans (List.perm_middle (l₁ := S')).symm)).trans ?_)
  rw [← List.append_assoc, ← List.append_assoc]
  exact List.perm_append_comm.append_right _
theorem wk_tail2 {S S' R R' : AH} (h : R'.Sublist R) : Wk (S ++ (S' ++ R)) (S ++ (S' ++ R')) := Wk.sub (List.Sublist.append_left (List.Sublist.append_left h _) _)
theorem eqv_bools2 (a b : Bool) : PyData.eqv (.list [.bool a, .bool b]) (.list [.bool a, .bool b]) = true := by
  cases a <;> cases b <;> simp [PyData.eqv, PyData.eqvAll]
theorem srt_uniq {l K : List Int} (hp : K.Perm l) (hl : K.Pairwise (· ≤ ·)) : K = srt l := rising_eq hl srt_le fun x => by rw [hp.count_eq, srt_perm.count_eq]
theorem head0 {l : List Int} {d : Int} : (iv (l ++ [d]))[0]? = some (vI ((l ++ [d]).headD 0)) := by cases l <;> rfl
theorem BI.sheads {xs : List Int} {f : Int → List Int} {bs : List (List Int)} (h : BI xs f bs) : ((bs.map srt).map fun b => b.headD 0).Nodup ∧ ∀ b ∈ bs.map srt, b ≠ [] := by
  have h1 : ∀ b ∈ bs, (srt b).headD 0 ∈ b := fun b hb => by
    have : srt b ≠ [] := fun e => h.ne b hb (List.length_eq_zero_iff.mp (by rw [← srt_perm.length_eq, e]; rfl))
    cases e : srt b with
    | nil => exact absurd e this
    | cons a r => exact srt_perm.mem_iff.mp (by rw [e]; exact List.mem_cons_self)
  refine ⟨?_, fun b hb => ?_⟩
  · rw [List.map_map, List.nodup_iff_pairwise_ne, List.pairwise_map]
    exact h.dj.imp_of_mem fun {a b} ha hb hd (e : (srt a).headD 0 = (srt b).headD 0) => hd _ (h1 a ha) (e ▸ h1 b hb)
  · obtain ⟨a, ha, rfl⟩ := List.mem_map.mp hb
    exact fun e => h.ne a ha (List.length_eq_zero_iff.mp (by rw [← srt_perm.length_eq, e]; rfl))
theorem InL.perm {ls ls' : List (Addr × List Int)} (h : InL H ls) (hp : ls'.Perm ls) : InL H ls' := fun p hp' => h p (hp.mem_iff.mp hp')
theorem DATS.refsL {ls : List (Addr × List Int)} (h : InL H ls) : DATS C H (refsL ls) ((ls.map (·.2)).map fun q => .list (q.map PyData.int)) := by
  rw [List.map_map]
  exact DATS.lists h
end
theorem build_take {l : List (Int × List Int)} {i : Nat} {p : Int × List Int} (h : l[i]? = some p) : gBuild (l.take (i + 1)) = gAdd (gBuild (l.take i)) p.1 p.2 := by
  unfold gBuild
  exact fold_take (fun g p => gAdd g p.1 p.2) [] h
theorem build_bd {l : List (Int × List Int)} {i b : Nat} (hl : l.length ≤ 5) (hb : ∀ p ∈ l, p.2.length ≤ b) : Bd (gBuild (l.take i)) (5 * (1 + 2 * b)) := by
  refine (Bd.build (l.take i) (b := 0) ⟨Nat.le_refl _, fun p hp => by cases hp⟩).mono ?_
  rw [Nat.zero_add]
  have h1 : ∀ (l : List (Int × List Int)), (∀ p ∈ l, p.2.length ≤ b) → (l.map fun p => 1 + 2 * p.2.length).sum ≤ l.length * (1 + 2 * b) := by
    intro l
    induction l with
    | nil => intro _; simp
    | cons p r ih =>
      intro hl
      have h2 := ih fun q hq => hl q (List.mem_cons_of_mem _ hq)
      have h3 := hl p List.mem_cons_self
      rw [List.map_cons, List.sum_cons, List.length_cons]
      have h4 := Nat.add_one_mul r.length (1 + 2 * b)
      omega
  refine Nat.le_trans (h1 _ fun p hp => hb p (List.mem_of_mem_take hp)) (Nat.mul_le_mul_right _ ?_)
  rw [List.length_take]; omega
end Mine

namespace Mine
set_option maxRecDepth 100000
open PySem PySem.W PyProof.Rows
noncomputable def nthS : List Stmt → Nat → Stmt
  | s :: _, 0 => s
  | _ :: r, n + 1 => nthS r n
  | [], _ => .Pass ⟨0, 0, 0, 0⟩
noncomputable def subS : Stmt → List Stmt
  | .ClassDef _ _ _ b .. => b
  | _ => []
noncomputable def argsS : Stmt → Arguments
  | .FunctionDef _ a .. => a
  | _ => default
noncomputable def bodyS : Stmt → FuncBody
  | .FunctionDef _ _ b .. => .stmts b
  | _ => default
noncomputable def scopeS : Stmt → Scope
  | .FunctionDef _ _ _ _ _ _ s .. => s
  | _ => default
@[reducible] noncomputable def k04a0 : Arguments := (show {x // x = argsS (nthS PySem.Challenge.pw_ik0042_04.main.body 0)} from (by refine ⟨?x, ?h⟩; (case h => conv => rhs; whnf))).val
@[reducible] noncomputable def k04b0 : FuncBody := (show {x // x = bodyS (nthS PySem.Challenge.pw_ik0042_04.main.body 0)} from (by refine ⟨?x, ?h⟩; (case h => conv => rhs; whnf))).val
@[reducible] noncomputable def k04s0 : Scope := (show {x // x = scopeS (nthS PySem.Challenge.pw_ik0042_04.main.body 0)} from (by refine ⟨?x, ?h⟩; (case h => conv => rhs; whnf))).val
@[reducible] noncomputable def k04a1 : Arguments := (show {x // x = argsS (nthS (subS (nthS PySem.Challenge.pw_ik0042_04.main.body 4)) 1)} from (by refine ⟨?x, ?h⟩; (case h => conv => rhs; whnf))).val
@[reducible] noncomputable def k04b1 : FuncBody := (show {x // x = bodyS (nthS (subS (nthS PySem.Challenge.pw_ik0042_04.main.body 4)) 1)} from (by refine ⟨?x, ?h⟩; (case h => conv => rhs; whnf))).val
@[reducible] noncomputable def k04s1 : Scope := (show {x // x = scopeS (nthS (subS (nthS PySem.Challenge.pw_ik0042_04.main.body 4)) 1)} from (by refine ⟨?x, ?h⟩; (case h => conv => rhs; whnf))).val
@[reducible] noncomputable def k04a2 : Arguments := (show {x // x = argsS (nthS (subS (nthS PySem.Challenge.pw_ik0042_04.main.body 6)) 0)} from (by refine ⟨?x, ?h⟩; (case h => conv => rhs; whnf))).val
@[reducible] noncomputable def k04b2 : FuncBody := (show {x // x = bodyS (nthS (subS (nthS PySem.Challenge.pw_ik0042_04.main.body 6)) 0)} from (by refine ⟨?x, ?h⟩; (case h => conv => rhs; whnf))).val
@[reducible] noncomputable def k04s2 : Scope := (show {x // x = scopeS (nthS (subS (nthS PySem.Challenge.pw_ik0042_04.main.body 6)) 0)} from (by refine ⟨?x, ?h⟩; (case h => conv => rhs; whnf))).val
@[reducible] noncomputable def k04a3 : Arguments := (show {x // x = argsS (nthS (subS (nthS PySem.Challenge.pw_ik0042_04.main.body 6)) 1)} from (by refine ⟨?x, ?h⟩; (case h => conv => rhs; whnf))).val
@[reducible] noncomputable def k04b3 : FuncBody := (show {x // x = bodyS (nthS (subS (nthS PySem.Challenge.pw_ik0042_04.main.body 6)) 1)} from (by refine ⟨?x, ?h⟩; (case h => conv => rhs; whnf))).val
@[reducible] noncomputable def k04s3 : Scope := (show {x // x = scopeS (nthS (subS (nthS PySem.Challenge.pw_ik0042_04.main.body 6)) 1)} from (by refine ⟨?x, ?h⟩; (case h => conv => rhs; whnf))).val
@[reducible] noncomputable def k04a4 : Arguments := (show {x // x = argsS (nthS (subS (nthS PySem.Challenge.pw_ik0042_04.main.body 6)) 2)} from (by refine ⟨?x, ?h⟩; (case h => conv => rhs; whnf))).val
@[reducible] noncomputable def k04b4 : FuncBody := (show {x // x = bodyS (nthS (subS (nthS PySem.Challenge.pw_ik0042_04.main.body 6)) 2)} from (by refine ⟨?x, ?h⟩; (case h => conv => rhs; whnf))).val
@[reducible] noncomputable def k04s4 : Scope := (show {x // x = scopeS (nthS (subS (nthS PySem.Challenge.pw_ik0042_04.main.body 6)) 2)} from (by refine ⟨?x, ?h⟩; (case h => conv => rhs; whnf))).val
@[reducible] noncomputable def k04a5 : Arguments := (show {x // x = argsS (nthS (subS (nthS PySem.Challenge.pw_ik0042_04.main.body 6)) 3)} from (by refine ⟨?x, ?h⟩; (case h => conv => rhs; whnf))).val
@[reducible] noncomputable def k04b5 : FuncBody := (show {x // x = bodyS (nthS (subS (nthS PySem.Challenge.pw_ik0042_04.main.body 6)) 3)} from (by refine ⟨?x, ?h⟩; (case h => conv => rhs; whnf))).val
@[reducible] noncomputable def k04s5 : Scope := (show {x // x = scopeS (nthS (subS (nthS PySem.Challenge.pw_ik0042_04.main.body 6)) 3)} from (by refine ⟨?x, ?h⟩; (case h => conv => rhs; whnf))).val
@[reducible] noncomputable def k04a6 : Arguments := (show {x // x = argsS (nthS (subS (nthS PySem.Challenge.pw_ik0042_04.main.body 6)) 4)} from (by refine ⟨?x, ?h⟩; (case h => conv => rhs; whnf))).val
@[reducible] noncomputable def k04b6 : FuncBody := (show {x // x = bodyS (nthS (subS (nthS PySem.Challenge.pw_ik0042_04.main.body 6)) 4)} from (by refine ⟨?x, ?h⟩; (case h => conv => rhs; whnf))).val
@[reducible] noncomputable def k04s6 : Scope := (show {x // x = scopeS (nthS (subS (nthS PySem.Challenge.pw_ik0042_04.main.body 6)) 4)} from (by refine ⟨?x, ?h⟩; (case h => conv => rhs; whnf))).val
@[reducible] noncomputable def k04a7 : Arguments := (show {x // x = argsS (nthS (subS (nthS PySem.Challenge.pw_ik0042_04.main.body 6)) 5)} from (by refine ⟨?x, ?h⟩; (case h => conv => rhs; whnf))).val
@[reducible] noncomputable def k04b7 : FuncBody := (show {x // x = bodyS (nthS (subS (nthS PySem.Challenge.pw_ik0042_04.main.body 6)) 5)} from (by refine ⟨?x, ?h⟩; (case h => conv => rhs; whnf))).val
@[reducible] noncomputable def k04s7 : Scope := (show {x // x = scopeS (nthS (subS (nthS PySem.Challenge.pw_ik0042_04.main.body 6)) 5)} from (by refine ⟨?x, ?h⟩; (case h => conv => rhs; whnf))).val
@[reducible] noncomputable def k04a8 : Arguments := (show {x // x = argsS (nthS (subS (nthS PySem.Challenge.pw_ik0042_04.main.body 6)) 6)} from (by refine ⟨?x, ?h⟩; (case h => conv => rhs; whnf))).val
@[reducible] noncomputable def k04b8 : FuncBody := (show {x // x = bodyS (nthS (subS (nthS PySem.Challenge.pw_ik0042_04.main.body 6)) 6)} from (by refine ⟨?x, ?h⟩; (case h => conv => rhs; whnf))).val
@[reducible] noncomputable def k04s8 : Scope := (show {x // x = scopeS (nthS (subS (nthS PySem.Challenge.pw_ik0042_04.main.body 6)) 6)} from (by refine ⟨?x, ?h⟩; (case h => conv => rhs; whnf))).val
@[reducible] noncomputable def k04a9 : Arguments := (show {x // x = argsS (nthS (subS (nthS PySem.Challenge.pw_ik0042_04.main.body 6)) 7)} from (by refine ⟨?x, ?h⟩; (case h => conv => rhs; whnf))).val
@[reducible] noncomputable def k04b9 : FuncBody := (show {x // x = bodyS (nthS (subS (nthS PySem.Challenge.pw_ik0042_04.main.body 6)) 7)} from (by refine ⟨?x, ?h⟩; (case h => conv => rhs; whnf))).val
@[reducible] noncomputable def k04s9 : Scope := (show {x // x = scopeS (nthS (subS (nthS PySem.Challenge.pw_ik0042_04.main.body 6)) 7)} from (by refine ⟨?x, ?h⟩; (case h => conv => rhs; whnf))).val
@[reducible] noncomputable def k04a10 : Arguments := (show {x // x = argsS (nthS (subS (nthS PySem.Challenge.pw_ik0042_04.main.body 6)) 8)} from (by refine ⟨?x, ?h⟩; (case h => conv => rhs; whnf))).val
@[reducible] noncomputable def k04b10 : FuncBody := (show {x // x = bodyS (nthS (subS (nthS PySem.Challenge.pw_ik0042_04.main.body 6)) 8)} from (by refine ⟨?x, ?h⟩; (case h => conv => rhs; whnf))).val
@[reducible] noncomputable def k04s10 : Scope := (show {x // x = scopeS (nthS (subS (nthS PySem.Challenge.pw_ik0042_04.main.body 6)) 8)} from (by refine ⟨?x, ?h⟩; (case h => conv => rhs; whnf))).val
@[reducible] noncomputable def k04a11 : Arguments := (show {x // x = argsS (nthS (subS (nthS PySem.Challenge.pw_ik0042_04.main.body 6)) 9)} from (by refine ⟨?x, ?h⟩; (case h => conv => rhs; whnf))).val
@[reducible] noncomputable def k04b11 : FuncBody := (show {x // x = bodyS (nthS (subS (nthS PySem.Challenge.pw_ik0042_04.main.body 6)) 9)} from (by refine ⟨?x, ?h⟩; (case h => conv => rhs; whnf))).val
@[reducible] noncomputable def k04s11 : Scope := (show {x // x = scopeS (nthS (subS (nthS PySem.Challenge.pw_ik0042_04.main.body 6)) 9)} from (by refine ⟨?x, ?h⟩; (case h => conv => rhs; whnf))).val
@[reducible] noncomputable def k04a12 : Arguments := (show {x // x = argsS (nthS (subS (nthS PySem.Challenge.pw_ik0042_04.main.body 8)) 1)} from (by refine ⟨?x, ?h⟩; (case h => conv => rhs; whnf))).val
@[reducible] noncomputable def k04b12 : FuncBody := (show {x // x = bodyS (nthS (subS (nthS PySem.Challenge.pw_ik0042_04.main.body 8)) 1)} from (by refine ⟨?x, ?h⟩; (case h => conv => rhs; whnf))).val
@[reducible] noncomputable def k04s12 : Scope := (show {x // x = scopeS (nthS (subS (nthS PySem.Challenge.pw_ik0042_04.main.body 8)) 1)} from (by refine ⟨?x, ?h⟩; (case h => conv => rhs; whnf))).val
@[reducible] noncomputable def k04a13 : Arguments := (show {x // x = argsS (nthS (subS (nthS PySem.Challenge.pw_ik0042_04.main.body 8)) 2)} from (by refine ⟨?x, ?h⟩; (case h => conv => rhs; whnf))).val
@[reducible] noncomputable def k04b13 : FuncBody := (show {x // x = bodyS (nthS (subS (nthS PySem.Challenge.pw_ik0042_04.main.body 8)) 2)} from (by refine ⟨?x, ?h⟩; (case h => conv => rhs; whnf))).val
@[reducible] noncomputable def k04s13 : Scope := (show {x // x = scopeS (nthS (subS (nthS PySem.Challenge.pw_ik0042_04.main.body 8)) 2)} from (by refine ⟨?x, ?h⟩; (case h => conv => rhs; whnf))).val
@[reducible] noncomputable def k04a14 : Arguments := (show {x // x = argsS (nthS (subS (nthS PySem.Challenge.pw_ik0042_04.main.body 8)) 3)} from (by refine ⟨?x, ?h⟩; (case h => conv => rhs; whnf))).val
@[reducible] noncomputable def k04b14 : FuncBody := (show {x // x = bodyS (nthS (subS (nthS PySem.Challenge.pw_ik0042_04.main.body 8)) 3)} from (by refine ⟨?x, ?h⟩; (case h => conv => rhs; whnf))).val
@[reducible] noncomputable def k04s14 : Scope := (show {x // x = scopeS (nthS (subS (nthS PySem.Challenge.pw_ik0042_04.main.body 8)) 3)} from (by refine ⟨?x, ?h⟩; (case h => conv => rhs; whnf))).val
@[reducible] noncomputable def k04a15 : Arguments := (show {x // x = argsS (nthS PySem.Challenge.pw_ik0042_04.main.body 10)} from (by refine ⟨?x, ?h⟩; (case h => conv => rhs; whnf))).val
@[reducible] noncomputable def k04b15 : FuncBody := (show {x // x = bodyS (nthS PySem.Challenge.pw_ik0042_04.main.body 10)} from (by refine ⟨?x, ?h⟩; (case h => conv => rhs; whnf))).val
@[reducible] noncomputable def k04s15 : Scope := (show {x // x = scopeS (nthS PySem.Challenge.pw_ik0042_04.main.body 10)} from (by refine ⟨?x, ?h⟩; (case h => conv => rhs; whnf))).val
@[reducible] noncomputable def k04a16 : Arguments := (show {x // x = argsS (nthS PySem.Challenge.pw_ik0042_04.main.body 12)} from (by refine ⟨?x, ?h⟩; (case h => conv => rhs; whnf))).val
@[reducible] noncomputable def k04b16 : FuncBody := (show {x // x = bodyS (nthS PySem.Challenge.pw_ik0042_04.main.body 12)} from (by refine ⟨?x, ?h⟩; (case h => conv => rhs; whnf))).val
@[reducible] noncomputable def k04s16 : Scope := (show {x // x = scopeS (nthS PySem.Challenge.pw_ik0042_04.main.body 12)} from (by refine ⟨?x, ?h⟩; (case h => conv => rhs; whnf))).val
@[reducible] noncomputable def k04a17 : Arguments := (show {x // x = argsS (nthS PySem.Challenge.pw_ik0042_04.main.body 13)} from (by refine ⟨?x, ?h⟩; (case h => conv => rhs; whnf))).val
@[reducible] noncomputable def k04b17 : FuncBody := (show {x // x = bodyS (nthS PySem.Challenge.pw_ik0042_04.main.body 13)} from (by refine ⟨?x, ?h⟩; (case h => conv => rhs; whnf))).val
@[reducible] noncomputable def k04s17 : Scope := (show {x // x = scopeS (nthS PySem.Challenge.pw_ik0042_04.main.body 13)} from (by refine ⟨?x, ?h⟩; (case h => conv => rhs; whnf))).val
@[reducible] noncomputable def k04a18 : Arguments := (show {x // x = argsS (nthS PySem.Challenge.pw_ik0042_04.main.body 14)} from (by refine ⟨?x, ?h⟩; (case h => conv => rhs; whnf))).val
@[reducible] noncomputable def k04b18 : FuncBody := (show {x // x = bodyS (nthS PySem.Challenge.pw_ik0042_04.main.body 14)} from (by refine ⟨?x, ?h⟩; (case h => conv => rhs; whnf))).val
@[reducible] noncomputable def k04s18 : Scope := (show {x // x = scopeS (nthS PySem.Challenge.pw_ik0042_04.main.body 14)} from (by refine ⟨?x, ?h⟩; (case h => conv => rhs; whnf))).val
@[reducible] noncomputable def k04a19 : Arguments := (show {x // x = argsS (nthS PySem.Challenge.pw_ik0042_04.main.body 15)} from (by refine ⟨?x, ?h⟩; (case h => conv => rhs; whnf))).val
@[reducible] noncomputable def k04b19 : FuncBody := (show {x // x = bodyS (nthS PySem.Challenge.pw_ik0042_04.main.body 15)} from (by refine ⟨?x, ?h⟩; (case h => conv => rhs; whnf))).val
@[reducible] noncomputable def k04s19 : Scope := (show {x // x = scopeS (nthS PySem.Challenge.pw_ik0042_04.main.body 15)} from (by refine ⟨?x, ?h⟩; (case h => conv => rhs; whnf))).val
@[reducible] noncomputable def k04a20 : Arguments := (show {x // x = argsS (nthS PySem.Challenge.pw_ik0042_04.main.body 16)} from (by refine ⟨?x, ?h⟩; (case h => conv => rhs; whnf))).val
@[reducible] noncomputable def k04b20 : FuncBody := (show {x // x = bodyS (nthS PySem.Challenge.pw_ik0042_04.main.body 16)} from (by refine ⟨?x, ?h⟩; (case h => conv => rhs; whnf))).val
@[reducible] noncomputable def k04s20 : Scope := (show {x // x = scopeS (nthS PySem.Challenge.pw_ik0042_04.main.body 16)} from (by refine ⟨?x, ?h⟩; (case h => conv => rhs; whnf))).val
@[reducible] noncomputable def k04a21 : Arguments := (show {x // x = argsS (nthS PySem.Challenge.pw_ik0042_04.main.body 17)} from (by refine ⟨?x, ?h⟩; (case h => conv => rhs; whnf))).val
@[reducible] noncomputable def k04b21 : FuncBody := (show {x // x = bodyS (nthS PySem.Challenge.pw_ik0042_04.main.body 17)} from (by refine ⟨?x, ?h⟩; (case h => conv => rhs; whnf))).val
@[reducible] noncomputable def k04s21 : Scope := (show {x // x = scopeS (nthS PySem.Challenge.pw_ik0042_04.main.body 17)} from (by refine ⟨?x, ?h⟩; (case h => conv => rhs; whnf))).val
set_option maxHeartbeats 4000000 in
noncomputable def K04 (P : Params) : Frag :=
(nat_lit 2, { cls := .none, data := .dict #[] }) ::
(nat_lit 3, { cls := .type "dict", data := .dict #[{ hash := PyData.keyHash P (.ofString "__name__"), key := .str (.ofString "__name__") 165, val := .str (.ofString "law_ik0042_04") 438 }, { hash := PyData.keyHash P (.ofString "__doc__"), key := .str (.ofString "__doc__") 166, val := .none }, { hash := PyData.keyHash P (.ofString "__package__"), key := .str (.ofString "__package__") 167, val := .none }, { hash := PyData.keyHash P (.ofString "__loader__"), key := .str (.ofString "__loader__") 168, val := .builtin "__main__.__loader__#opaque" }, { hash := PyData.keyHash P (.ofString "__spec__"), key := .str (.ofString "__spec__") 169, val := .none }, { hash := PyData.keyHash P (.ofString "__annotations__"), key := .str (.ofString "__annotations__") 170, val := .ref 6 }, { hash := PyData.keyHash P (.ofString "__builtins__"), key := .str (.ofString "__builtins__") 171, val := .ref 4 }, { hash := PyData.keyHash P (.ofString "__file__"), key := .str (.ofString "__file__") 173, val := .str (.ofString "/claim/cut.py") 172 }, { hash := PyData.keyHash P (.ofString "__cached__"), key := .str (.ofString "__cached__") 174, val := .none }, { hash := PyData.keyHash P (.ofString "_wall"), key := .str (.ofString "_wall") 193, val := .ref 21 }, { hash := PyData.keyHash P (.ofString "_NODE_OUT"), key := .str (.ofString "_NODE_OUT") 198, val := .int (-1) 197 }, { hash := PyData.keyHash P (.ofString "_NODE_DONE"), key := .str (.ofString "_NODE_DONE") 201, val := .int (-2) 200 }, { hash := PyData.keyHash P (.ofString "_NodeInfo"), key := .str (.ofString "_NodeInfo") 238, val := .ref 40 }, { hash := PyData.keyHash P (.ofString "CycleError"), key := .str (.ofString "CycleError") 256, val := .ref 55 }, { hash := PyData.keyHash P (.ofString "TopologicalSorter"), key := .str (.ofString "TopologicalSorter") 375, val := .ref 137 }, { hash := PyData.keyHash P (.ofString "filterfalse"), key := .str (.ofString "filterfalse") 427, val := .ref 174 }, { hash := PyData.keyHash P (.ofString "_filter"), key := .str (.ofString "_filter") 437, val := .ref 185 }, { hash := PyData.keyHash P (.ofString "_law_follow"), key := .str (.ofString "_law_follow") 445, val := .ref 190 }, { hash := PyData.keyHash P (.ofString "_law_blocks"), key := .str (.ofString "_law_blocks") 458, val := .ref 197 }, { hash := PyData.keyHash P (.ofString "_law_told"), key := .str (.ofString "_law_told") 464, val := .ref 202 }, { hash := PyData.keyHash P (.ofString "_law_depths"), key := .str (.ofString "_law_depths") 470, val := .ref 207 }, { hash := PyData.keyHash P (.ofString "_law_ring"), key := .str (.ofString "_law_ring") 477, val := .ref 214 }, { hash := PyData.keyHash P (.ofString "law"), key := .str (.ofString "law") 483, val := .ref 219 }] 23 }) ::
(nat_lit 15, { cls := .type "tuple", data := .seq #[] }) ::
(nat_lit 17, { cls := .type "tuple", data := .seq #[.str (.ofString "k") 190] }) ::
(nat_lit 18, { cls := .type "tuple", data := .seq #[] }) ::
(nat_lit 20, { cls := .type "code", data := .fields #[.str (.ofString "_wall") 187, .str (.ofString "_wall") 188, .str (.ofString "/claim/cut.py") 189, .int 1 0, .int 1 0, .int 0 0, .int 0 0, .int 3 0, .ref 15, .bool true, .int 181 0, .ref 16, .none, .ref 17, .ref 18, .ref 19, .int 191 0, .int 1 0, .str (.ofString "/claim/cut.py") 192] }) ::
(nat_lit 21, { cls := .type "function", data := .func { name := .ofString "_wall", qualname := .ofString "_wall", params := k04a0, body := k04b0, scope := k04s0, globals := 3, closure := [], defaults := .none, kwdefaults := .none, pyModule := .str (.ofString "__main__") 164, code := .ref 20 } }) ::
(nat_lit 29, { cls := .type "tuple", data := .seq #[.str (.ofString "node") 214, .str (.ofString "npredecessors") 215, .str (.ofString "successors") 216] }) ::
(nat_lit 30, { cls := .type "tuple", data := .seq #[] }) ::
(nat_lit 32, { cls := .type "tuple", data := .seq #[.str (.ofString "self") 221, .str (.ofString "node") 222] }) ::
(nat_lit 33, { cls := .type "tuple", data := .seq #[] }) ::
(nat_lit 35, { cls := .type "code", data := .fields #[.str (.ofString "__init__") 218, .str (.ofString "_NodeInfo.__init__") 219, .str (.ofString "/claim/cut.py") 220, .int 10 0, .int 2 0, .int 0 0, .int 0 0, .int 3 0, .ref 30, .bool true, .int 181 0, .ref 31, .none, .ref 32, .ref 33, .ref 34, .int 223 0, .int 10 0, .str (.ofString "/claim/cut.py") 224] }) ::
(nat_lit 36, { cls := .type "function", data := .func { name := .ofString "__init__", qualname := .ofString "_NodeInfo.__init__", params := k04a1, body := k04b1, scope := k04s1, globals := 3, closure := [], defaults := .none, kwdefaults := .none, pyModule := .str (.ofString "cpy313.graphlib") 194, code := .ref 35 } }) ::
(nat_lit 37, { cls := .type "tuple", data := .seq #[.str (.ofString "node") 226, .str (.ofString "npredecessors") 227, .str (.ofString "successors") 228] }) ::
(nat_lit 39, { cls := .type "dict", data := .dict #[{ hash := PyData.keyHash P (.ofString "__module__"), key := .str (.ofString "__module__") 209, val := .str (.ofString "cpy313.graphlib") 194 }, { hash := PyData.keyHash P (.ofString "__firstlineno__"), key := .str (.ofString "__firstlineno__") 213, val := .int 7 212 }, { hash := PyData.keyHash P (.ofString "__slots__"), key := .str (.ofString "__slots__") 217, val := .ref 29 }, { hash := PyData.keyHash P (.ofString "__init__"), key := .str (.ofString "__init__") 225, val := .ref 36 }, { hash := PyData.keyHash P (.ofString "__static_attributes__"), key := .str (.ofString "__static_attributes__") 229, val := .ref 37 }, { hash := PyData.keyHash P (.ofString "node"), key := .str (.ofString "node") 231, val := .ref 41 }, { hash := PyData.keyHash P (.ofString "npredecessors"), key := .str (.ofString "npredecessors") 233, val := .ref 42 }, { hash := PyData.keyHash P (.ofString "successors"), key := .str (.ofString "successors") 235, val := .ref 43 }, { hash := PyData.keyHash P (.ofString "__doc__"), key := .str (.ofString "__doc__") 236, val := .none }] 5 }) ::
(nat_lit 40, { cls := .type "type", data := .cls { name := .ofString "_NodeInfo", bases := [.type "object"], mro := [.ref 40, .type "object"], ns := 39, qualname := .ofString "_NodeInfo", hasDict := false, slotNames := [.ofString "node", .ofString "npredecessors", .ofString "successors"] }, slots := #[none, none, some (.str (.ofString "_NodeInfo") 202), some (.str (.ofString "_NodeInfo") 210), some (.builtin "object.__new__"), some (.bool false)] }) ::
(nat_lit 41, { cls := .type "member_descriptor", data := .fields #[.str (.ofString "node") 230, .ref 40, .builtin "proto.slot", .builtin "proto.slot#set", .int 2 0] }) ::
(nat_lit 42, { cls := .type "member_descriptor", data := .fields #[.str (.ofString "npredecessors") 232, .ref 40, .builtin "proto.slot", .builtin "proto.slot#set", .int 1 0] }) ::
(nat_lit 43, { cls := .type "member_descriptor", data := .fields #[.str (.ofString "successors") 234, .ref 40, .builtin "proto.slot", .builtin "proto.slot#set", .int 0 0] }) ::
(nat_lit 46, { cls := .type "tuple", data := .seq #[.type "ValueError"] }) ::
(nat_lit 53, { cls := .type "tuple", data := .seq #[] }) ::
(nat_lit 54, { cls := .type "dict", data := .dict #[{ hash := PyData.keyHash P (.ofString "__module__"), key := .str (.ofString "__module__") 246, val := .str (.ofString "cpy313.graphlib") 194 }, { hash := PyData.keyHash P (.ofString "__firstlineno__"), key := .str (.ofString "__firstlineno__") 250, val := .int 14 249 }, { hash := PyData.keyHash P (.ofString "__static_attributes__"), key := .str (.ofString "__static_attributes__") 251, val := .ref 53 }, { hash := PyData.keyHash P (.ofString "__weakref__"), key := .str (.ofString "__weakref__") 253, val := .ref 56 }, { hash := PyData.keyHash P (.ofString "__doc__"), key := .str (.ofString "__doc__") 254, val := .none }] 3 }) ::
(nat_lit 55, { cls := .type "type", data := .cls { name := .ofString "CycleError", bases := [.type "ValueError"], mro := [.ref 55, .type "ValueError", .type "Exception", .type "BaseException", .type "object"], ns := 54, qualname := .ofString "CycleError" }, slots := #[some (.ref 46), none, some (.str (.ofString "CycleError") 239), some (.str (.ofString "CycleError") 247), some (.builtin "ValueError.__new__"), some (.bool true)] }) ::
(nat_lit 56, { cls := .type "getset_descriptor", data := .fields #[.str (.ofString "__weakref__") 252, .ref 55, .builtin "ExceptionGroup.__weakref__", .none] }) ::
(nat_lit 66, { cls := .type "tuple", data := .seq #[.none] }) ::
(nat_lit 67, { cls := .type "tuple", data := .seq #[] }) ::
(nat_lit 69, { cls := .type "tuple", data := .seq #[.str (.ofString "self") 272, .str (.ofString "graph") 273, .str (.ofString "node") 274, .str (.ofString "predecessors") 275] }) ::
(nat_lit 70, { cls := .type "tuple", data := .seq #[] }) ::
(nat_lit 72, { cls := .type "code", data := .fields #[.str (.ofString "__init__") 269, .str (.ofString "TopologicalSorter.__init__") 270, .str (.ofString "/claim/cut.py") 271, .int 18 0, .int 2 0, .int 0 0, .int 0 0, .int 3 0, .ref 67, .bool true, .int 181 0, .ref 68, .none, .ref 69, .ref 70, .ref 71, .int 276 0, .int 18 0, .str (.ofString "/claim/cut.py") 277] }) ::
(nat_lit 73, { cls := .type "function", data := .func { name := .ofString "__init__", qualname := .ofString "TopologicalSorter.__init__", params := k04a2, body := k04b2, scope := k04s2, globals := 3, closure := [], defaults := .ref 66, kwdefaults := .none, pyModule := .str (.ofString "cpy313.graphlib") 194, code := .ref 72 } }) ::
(nat_lit 74, { cls := .type "tuple", data := .seq #[] }) ::
(nat_lit 76, { cls := .type "tuple", data := .seq #[.str (.ofString "self") 282, .str (.ofString "node") 283, .str (.ofString "result") 284] }) ::
(nat_lit 77, { cls := .type "tuple", data := .seq #[] }) ::
(nat_lit 79, { cls := .type "code", data := .fields #[.str (.ofString "_get_nodeinfo") 279, .str (.ofString "TopologicalSorter._get_nodeinfo") 280, .str (.ofString "/claim/cut.py") 281, .int 27 0, .int 2 0, .int 0 0, .int 0 0, .int 3 0, .ref 74, .bool true, .int 181 0, .ref 75, .none, .ref 76, .ref 77, .ref 78, .int 285 0, .int 27 0, .str (.ofString "/claim/cut.py") 286] }) ::
(nat_lit 80, { cls := .type "function", data := .func { name := .ofString "_get_nodeinfo", qualname := .ofString "TopologicalSorter._get_nodeinfo", params := k04a3, body := k04b3, scope := k04s3, globals := 3, closure := [], defaults := .none, kwdefaults := .none, pyModule := .str (.ofString "cpy313.graphlib") 194, code := .ref 79 } }) ::
(nat_lit 81, { cls := .type "tuple", data := .seq #[] }) ::
(nat_lit 83, { cls := .type "tuple", data := .seq #[.str (.ofString "self") 291, .str (.ofString "node") 292, .str (.ofString "predecessors") 293, .str (.ofString "nodeinfo") 294, .str (.ofString "pred") 295, .str (.ofString "pred_info") 296] }) ::
(nat_lit 84, { cls := .type "tuple", data := .seq #[] }) ::
(nat_lit 86, { cls := .type "code", data := .fields #[.str (.ofString "add") 288, .str (.ofString "TopologicalSorter.add") 289, .str (.ofString "/claim/cut.py") 290, .int 32 0, .int 2 0, .int 0 0, .int 0 0, .int 7 0, .ref 81, .bool true, .int 181 0, .ref 82, .none, .ref 83, .ref 84, .ref 85, .int 297 0, .int 32 0, .str (.ofString "/claim/cut.py") 298] }) ::
(nat_lit 87, { cls := .type "function", data := .func { name := .ofString "add", qualname := .ofString "TopologicalSorter.add", params := k04a4, body := k04b4, scope := k04s4, globals := 3, closure := [], defaults := .none, kwdefaults := .none, pyModule := .str (.ofString "cpy313.graphlib") 194, code := .ref 86 } }) ::
(nat_lit 88, { cls := .type "tuple", data := .seq #[] }) ::
(nat_lit 91, { cls := .type "code", data := .fields #[.str (.ofString "prepare") 300, .str (.ofString "TopologicalSorter.prepare") 301, .str (.ofString "/claim/cut.py") 302, .int 41 0, .int 1 0, .int 0 0, .int 0 0, .int 3 0, .ref 88, .bool true, .int 181 0, .ref 89, .none, .none, .none, .ref 90, .int 303 0, .int 41 0, .str (.ofString "/claim/cut.py") 304] }) ::
(nat_lit 92, { cls := .type "function", data := .func { name := .ofString "prepare", qualname := .ofString "TopologicalSorter.prepare", params := k04a5, body := k04b5, scope := k04s5, globals := 3, closure := [], defaults := .none, kwdefaults := .none, pyModule := .str (.ofString "cpy313.graphlib") 194, code := .ref 91 } }) ::
(nat_lit 93, { cls := .type "tuple", data := .seq #[] }) ::
(nat_lit 95, { cls := .type "tuple", data := .seq #[.str (.ofString "self") 309, .str (.ofString "result") 310, .str (.ofString "n2i") 311, .str (.ofString "node") 312] }) ::
(nat_lit 96, { cls := .type "tuple", data := .seq #[] }) ::
(nat_lit 98, { cls := .type "code", data := .fields #[.str (.ofString "get_ready") 306, .str (.ofString "TopologicalSorter.get_ready") 307, .str (.ofString "/claim/cut.py") 308, .int 49 0, .int 1 0, .int 0 0, .int 0 0, .int 3 0, .ref 93, .bool true, .int 181 0, .ref 94, .none, .ref 95, .ref 96, .ref 97, .int 313 0, .int 49 0, .str (.ofString "/claim/cut.py") 314] }) ::
(nat_lit 99, { cls := .type "function", data := .func { name := .ofString "get_ready", qualname := .ofString "TopologicalSorter.get_ready", params := k04a6, body := k04b6, scope := k04s6, globals := 3, closure := [], defaults := .none, kwdefaults := .none, pyModule := .str (.ofString "cpy313.graphlib") 194, code := .ref 98 } }) ::
(nat_lit 100, { cls := .type "tuple", data := .seq #[] }) ::
(nat_lit 102, { cls := .type "tuple", data := .seq #[.str (.ofString "self") 319] }) ::
(nat_lit 103, { cls := .type "tuple", data := .seq #[] }) ::
(nat_lit 105, { cls := .type "code", data := .fields #[.str (.ofString "is_active") 316, .str (.ofString "TopologicalSorter.is_active") 317, .str (.ofString "/claim/cut.py") 318, .int 60 0, .int 1 0, .int 0 0, .int 0 0, .int 3 0, .ref 100, .bool true, .int 181 0, .ref 101, .none, .ref 102, .ref 103, .ref 104, .int 320 0, .int 60 0, .str (.ofString "/claim/cut.py") 321] }) ::
(nat_lit 106, { cls := .type "function", data := .func { name := .ofString "is_active", qualname := .ofString "TopologicalSorter.is_active", params := k04a7, body := k04b7, scope := k04s7, globals := 3, closure := [], defaults := .none, kwdefaults := .none, pyModule := .str (.ofString "cpy313.graphlib") 194, code := .ref 105 } }) ::
(nat_lit 107, { cls := .type "tuple", data := .seq #[] }) ::
(nat_lit 109, { cls := .type "tuple", data := .seq #[.str (.ofString "self") 326] }) ::
(nat_lit 110, { cls := .type "tuple", data := .seq #[] }) ::
(nat_lit 112, { cls := .type "code", data := .fields #[.str (.ofString "__bool__") 323, .str (.ofString "TopologicalSorter.__bool__") 324, .str (.ofString "/claim/cut.py") 325, .int 65 0, .int 1 0, .int 0 0, .int 0 0, .int 3 0, .ref 107, .bool true, .int 181 0, .ref 108, .none, .ref 109, .ref 110, .ref 111, .int 327 0, .int 65 0, .str (.ofString "/claim/cut.py") 328] }) ::
(nat_lit 113, { cls := .type "function", data := .func { name := .ofString "__bool__", qualname := .ofString "TopologicalSorter.__bool__", params := k04a8, body := k04b8, scope := k04s8, globals := 3, closure := [], defaults := .none, kwdefaults := .none, pyModule := .str (.ofString "cpy313.graphlib") 194, code := .ref 112 } }) ::
(nat_lit 114, { cls := .type "tuple", data := .seq #[] }) ::
(nat_lit 116, { cls := .type "tuple", data := .seq #[.str (.ofString "self") 333, .str (.ofString "nodes") 334, .str (.ofString "n2i") 335, .str (.ofString "node") 336, .str (.ofString "nodeinfo") 337, .str (.ofString "stat") 338, .str (.ofString "successor") 339, .str (.ofString "successor_info") 340] }) ::
(nat_lit 117, { cls := .type "tuple", data := .seq #[] }) ::
(nat_lit 119, { cls := .type "code", data := .fields #[.str (.ofString "done") 330, .str (.ofString "TopologicalSorter.done") 331, .str (.ofString "/claim/cut.py") 332, .int 68 0, .int 1 0, .int 0 0, .int 0 0, .int 7 0, .ref 114, .bool true, .int 181 0, .ref 115, .none, .ref 116, .ref 117, .ref 118, .int 341 0, .int 68 0, .str (.ofString "/claim/cut.py") 342] }) ::
(nat_lit 120, { cls := .type "function", data := .func { name := .ofString "done", qualname := .ofString "TopologicalSorter.done", params := k04a9, body := k04b9, scope := k04s9, globals := 3, closure := [], defaults := .none, kwdefaults := .none, pyModule := .str (.ofString "cpy313.graphlib") 194, code := .ref 119 } }) ::
(nat_lit 121, { cls := .type "tuple", data := .seq #[] }) ::
(nat_lit 123, { cls := .type "tuple", data := .seq #[.str (.ofString "self") 347, .str (.ofString "n2i") 348, .str (.ofString "stack") 349, .str (.ofString "itstack") 350, .str (.ofString "seen") 351, .str (.ofString "node2stacki") 352, .str (.ofString "node") 353] }) ::
(nat_lit 124, { cls := .type "tuple", data := .seq #[] }) ::
(nat_lit 126, { cls := .type "code", data := .fields #[.str (.ofString "_find_cycle") 344, .str (.ofString "TopologicalSorter._find_cycle") 345, .str (.ofString "/claim/cut.py") 346, .int 91 0, .int 1 0, .int 0 0, .int 0 0, .int 3 0, .ref 121, .bool true, .int 181 0, .ref 122, .none, .ref 123, .ref 124, .ref 125, .int 354 0, .int 91 0, .str (.ofString "/claim/cut.py") 355] }) ::
(nat_lit 127, { cls := .type "function", data := .func { name := .ofString "_find_cycle", qualname := .ofString "TopologicalSorter._find_cycle", params := k04a10, body := k04b10, scope := k04s10, globals := 3, closure := [], defaults := .none, kwdefaults := .none, pyModule := .str (.ofString "cpy313.graphlib") 194, code := .ref 126 } }) ::
(nat_lit 128, { cls := .type "tuple", data := .seq #[] }) ::
(nat_lit 130, { cls := .type "tuple", data := .seq #[.str (.ofString "self") 360] }) ::
(nat_lit 131, { cls := .type "tuple", data := .seq #[] }) ::
(nat_lit 133, { cls := .type "code", data := .fields #[.str (.ofString "static_order") 357, .str (.ofString "TopologicalSorter.static_order") 358, .str (.ofString "/claim/cut.py") 359, .int 120 0, .int 1 0, .int 0 0, .int 0 0, .int 3 0, .ref 128, .bool true, .int 181 0, .ref 129, .none, .ref 130, .ref 131, .ref 132, .int 361 0, .int 120 0, .str (.ofString "/claim/cut.py") 362] }) ::
(nat_lit 134, { cls := .type "function", data := .func { name := .ofString "static_order", qualname := .ofString "TopologicalSorter.static_order", params := k04a11, body := k04b11, scope := k04s11, globals := 3, closure := [], defaults := .none, kwdefaults := .none, pyModule := .str (.ofString "cpy313.graphlib") 194, code := .ref 133 } }) ::
(nat_lit 135, { cls := .type "tuple", data := .seq #[.str (.ofString "_nfinished") 364, .str (.ofString "_node2info") 365, .str (.ofString "_npassedout") 366, .str (.ofString "_ready_nodes") 367] }) ::
(nat_lit 136, { cls := .type "dict", data := .dict #[{ hash := PyData.keyHash P (.ofString "__module__"), key := .str (.ofString "__module__") 264, val := .str (.ofString "cpy313.graphlib") 194 }, { hash := PyData.keyHash P (.ofString "__firstlineno__"), key := .str (.ofString "__firstlineno__") 268, val := .int 16 267 }, { hash := PyData.keyHash P (.ofString "__init__"), key := .str (.ofString "__init__") 278, val := .ref 73 }, { hash := PyData.keyHash P (.ofString "_get_nodeinfo"), key := .str (.ofString "_get_nodeinfo") 287, val := .ref 80 }, { hash := PyData.keyHash P (.ofString "add"), key := .str (.ofString "add") 299, val := .ref 87 }, { hash := PyData.keyHash P (.ofString "prepare"), key := .str (.ofString "prepare") 305, val := .ref 92 }, { hash := PyData.keyHash P (.ofString "get_ready"), key := .str (.ofString "get_ready") 315, val := .ref 99 }, { hash := PyData.keyHash P (.ofString "is_active"), key := .str (.ofString "is_active") 322, val := .ref 106 }, { hash := PyData.keyHash P (.ofString "__bool__"), key := .str (.ofString "__bool__") 329, val := .ref 113 }, { hash := PyData.keyHash P (.ofString "done"), key := .str (.ofString "done") 343, val := .ref 120 }, { hash := PyData.keyHash P (.ofString "_find_cycle"), key := .str (.ofString "_find_cycle") 356, val := .ref 127 }, { hash := PyData.keyHash P (.ofString "static_order"), key := .str (.ofString "static_order") 363, val := .ref 134 }, { hash := PyData.keyHash P (.ofString "__static_attributes__"), key := .str (.ofString "__static_attributes__") 368, val := .ref 135 }, { hash := PyData.keyHash P (.ofString "__dict__"), key := .str (.ofString "__dict__") 370, val := .ref 138 }, { hash := PyData.keyHash P (.ofString "__weakref__"), key := .str (.ofString "__weakref__") 372, val := .ref 139 }, { hash := PyData.keyHash P (.ofString "__doc__"), key := .str (.ofString "__doc__") 373, val := .none }] 4 }) ::
(nat_lit 137, { cls := .type "type", data := .cls { name := .ofString "TopologicalSorter", bases := [.type "object"], mro := [.ref 137, .type "object"], ns := 136, qualname := .ofString "TopologicalSorter" }, slots := #[none, none, some (.str (.ofString "TopologicalSorter") 257), some (.str (.ofString "TopologicalSorter") 265), some (.builtin "object.__new__"), some (.bool true)] }) ::
(nat_lit 138, { cls := .type "getset_descriptor", data := .fields #[.str (.ofString "__dict__") 369, .ref 137, .builtin "function.__dict__", .builtin "function.__dict__#set"] }) ::
(nat_lit 139, { cls := .type "getset_descriptor", data := .fields #[.str (.ofString "__weakref__") 371, .ref 137, .builtin "ExceptionGroup.__weakref__", .none] }) ::
(nat_lit 149, { cls := .type "tuple", data := .seq #[.str (.ofString "_it") 390, .str (.ofString "_func") 391] }) ::
(nat_lit 150, { cls := .type "tuple", data := .seq #[] }) ::
(nat_lit 152, { cls := .type "tuple", data := .seq #[.str (.ofString "self") 396, .str (.ofString "function") 397, .str (.ofString "iterable") 398] }) ::
(nat_lit 153, { cls := .type "tuple", data := .seq #[] }) ::
(nat_lit 155, { cls := .type "code", data := .fields #[.str (.ofString "__init__") 393, .str (.ofString "filterfalse.__init__") 394, .str (.ofString "/claim/cut.py") 395, .int 126 0, .int 3 0, .int 3 0, .int 0 0, .int 3 0, .ref 150, .bool true, .int 181 0, .ref 151, .none, .ref 152, .ref 153, .ref 154, .int 399 0, .int 126 0, .str (.ofString "/claim/cut.py") 400] }) ::
(nat_lit 156, { cls := .type "function", data := .func { name := .ofString "__init__", qualname := .ofString "filterfalse.__init__", params := k04a12, body := k04b12, scope := k04s12, globals := 3, closure := [], defaults := .none, kwdefaults := .none, pyModule := .str (.ofString "itertools") 376, code := .ref 155 } }) ::
(nat_lit 157, { cls := .type "tuple", data := .seq #[] }) ::
(nat_lit 159, { cls := .type "tuple", data := .seq #[.str (.ofString "self") 405] }) ::
(nat_lit 160, { cls := .type "tuple", data := .seq #[] }) ::
(nat_lit 162, { cls := .type "code", data := .fields #[.str (.ofString "__iter__") 402, .str (.ofString "filterfalse.__iter__") 403, .str (.ofString "/claim/cut.py") 404, .int 130 0, .int 1 0, .int 0 0, .int 0 0, .int 3 0, .ref 157, .bool true, .int 181 0, .ref 158, .none, .ref 159, .ref 160, .ref 161, .int 406 0, .int 130 0, .str (.ofString "/claim/cut.py") 407] }) ::
(nat_lit 163, { cls := .type "function", data := .func { name := .ofString "__iter__", qualname := .ofString "filterfalse.__iter__", params := k04a13, body := k04b13, scope := k04s13, globals := 3, closure := [], defaults := .none, kwdefaults := .none, pyModule := .str (.ofString "itertools") 376, code := .ref 162 } }) ::
(nat_lit 164, { cls := .type "tuple", data := .seq #[] }) ::
(nat_lit 166, { cls := .type "tuple", data := .seq #[.str (.ofString "self") 412, .str (.ofString "func") 413, .str (.ofString "item") 414] }) ::
(nat_lit 167, { cls := .type "tuple", data := .seq #[] }) ::
(nat_lit 169, { cls := .type "code", data := .fields #[.str (.ofString "__next__") 409, .str (.ofString "filterfalse.__next__") 410, .str (.ofString "/claim/cut.py") 411, .int 133 0, .int 1 0, .int 0 0, .int 0 0, .int 3 0, .ref 164, .bool true, .int 181 0, .ref 165, .none, .ref 166, .ref 167, .ref 168, .int 415 0, .int 133 0, .str (.ofString "/claim/cut.py") 416] }) ::
(nat_lit 170, { cls := .type "function", data := .func { name := .ofString "__next__", qualname := .ofString "filterfalse.__next__", params := k04a14, body := k04b14, scope := k04s14, globals := 3, closure := [], defaults := .none, kwdefaults := .none, pyModule := .str (.ofString "itertools") 376, code := .ref 169 } }) ::
(nat_lit 171, { cls := .type "tuple", data := .seq #[.str (.ofString "_func") 418, .str (.ofString "_it") 419] }) ::
(nat_lit 173, { cls := .type "dict", data := .dict #[{ hash := PyData.keyHash P (.ofString "__module__"), key := .str (.ofString "__module__") 385, val := .str (.ofString "itertools") 376 }, { hash := PyData.keyHash P (.ofString "__firstlineno__"), key := .str (.ofString "__firstlineno__") 389, val := .int 123 388 }, { hash := PyData.keyHash P (.ofString "__slots__"), key := .str (.ofString "__slots__") 392, val := .ref 149 }, { hash := PyData.keyHash P (.ofString "__init__"), key := .str (.ofString "__init__") 401, val := .ref 156 }, { hash := PyData.keyHash P (.ofString "__iter__"), key := .str (.ofString "__iter__") 408, val := .ref 163 }, { hash := PyData.keyHash P (.ofString "__next__"), key := .str (.ofString "__next__") 417, val := .ref 170 }, { hash := PyData.keyHash P (.ofString "__static_attributes__"), key := .str (.ofString "__static_attributes__") 420, val := .ref 171 }, { hash := PyData.keyHash P (.ofString "_func"), key := .str (.ofString "_func") 422, val := .ref 175 }, { hash := PyData.keyHash P (.ofString "_it"), key := .str (.ofString "_it") 424, val := .ref 176 }, { hash := PyData.keyHash P (.ofString "__doc__"), key := .str (.ofString "__doc__") 425, val := .none }] 4 }) ::
(nat_lit 174, { cls := .type "type", data := .cls { name := .ofString "filterfalse", bases := [.type "object"], mro := [.ref 174, .type "object"], ns := 173, qualname := .ofString "filterfalse", hasDict := false, slotNames := [.ofString "_func", .ofString "_it"] }, slots := #[none, none, some (.str (.ofString "filterfalse") 378), some (.str (.ofString "filterfalse") 386), some (.builtin "object.__new__"), some (.bool false)] }) ::
(nat_lit 175, { cls := .type "member_descriptor", data := .fields #[.str (.ofString "_func") 421, .ref 174, .builtin "proto.slot", .builtin "proto.slot#set", .int 1 0] }) ::
(nat_lit 176, { cls := .type "member_descriptor", data := .fields #[.str (.ofString "_it") 423, .ref 174, .builtin "proto.slot", .builtin "proto.slot#set", .int 0 0] }) ::
(nat_lit 179, { cls := .type "tuple", data := .seq #[] }) ::
(nat_lit 181, { cls := .type "tuple", data := .seq #[.str (.ofString "flist") 433, .str (.ofString "skip") 434] }) ::
(nat_lit 182, { cls := .type "tuple", data := .seq #[] }) ::
(nat_lit 184, { cls := .type "code", data := .fields #[.str (.ofString "_filter") 430, .str (.ofString "_filter") 431, .str (.ofString "/claim/cut.py") 432, .int 143 0, .int 2 0, .int 0 0, .int 0 0, .int 3 0, .ref 179, .bool true, .int 181 0, .ref 180, .none, .ref 181, .ref 182, .ref 183, .int 435 0, .int 143 0, .str (.ofString "/claim/cut.py") 436] }) ::
(nat_lit 185, { cls := .type "function", data := .func { name := .ofString "_filter", qualname := .ofString "_filter", params := k04a15, body := k04b15, scope := k04s15, globals := 3, closure := [], defaults := .none, kwdefaults := .none, pyModule := .str (.ofString "cpy313.filecmp") 428, code := .ref 184 } }) ::
(nat_lit 186, { cls := .type "tuple", data := .seq #[] }) ::
(nat_lit 189, { cls := .type "code", data := .fields #[.str (.ofString "_law_follow") 440, .str (.ofString "_law_follow") 441, .str (.ofString "/claim/cut.py") 442, .int 146 0, .int 2 0, .int 0 0, .int 0 0, .int 3 0, .ref 186, .bool true, .int 181 0, .ref 187, .none, .none, .none, .ref 188, .int 443 0, .int 146 0, .str (.ofString "/claim/cut.py") 444] }) ::
(nat_lit 190, { cls := .type "function", data := .func { name := .ofString "_law_follow", qualname := .ofString "_law_follow", params := k04a16, body := k04b16, scope := k04s16, globals := 3, closure := [], defaults := .none, kwdefaults := .none, pyModule := .str (.ofString "law_ik0042_04") 438, code := .ref 189 } }) ::
(nat_lit 191, { cls := .type "tuple", data := .seq #[] }) ::
(nat_lit 193, { cls := .type "tuple", data := .seq #[.str (.ofString "follow") 449, .str (.ofString "blocks") 450, .str (.ofString "x") 451, .str (.ofString "block") 452, .str (.ofString "apart") 453, .str (.ofString "other") 454, .str (.ofString "left") 455] }) ::
(nat_lit 194, { cls := .type "tuple", data := .seq #[] }) ::
(nat_lit 196, { cls := .type "code", data := .fields #[.str (.ofString "_law_blocks") 446, .str (.ofString "_law_blocks") 447, .str (.ofString "/claim/cut.py") 448, .int 153 0, .int 1 0, .int 0 0, .int 0 0, .int 3 0, .ref 191, .bool true, .int 181 0, .ref 192, .none, .ref 193, .ref 194, .ref 195, .int 456 0, .int 153 0, .str (.ofString "/claim/cut.py") 457] }) ::
(nat_lit 197, { cls := .type "function", data := .func { name := .ofString "_law_blocks", qualname := .ofString "_law_blocks", params := k04a17, body := k04b17, scope := k04s17, globals := 3, closure := [], defaults := .none, kwdefaults := .none, pyModule := .str (.ofString "law_ik0042_04") 438, code := .ref 196 } }) ::
(nat_lit 198, { cls := .type "tuple", data := .seq #[] }) ::
(nat_lit 201, { cls := .type "code", data := .fields #[.str (.ofString "_law_told") 459, .str (.ofString "_law_told") 460, .str (.ofString "/claim/cut.py") 461, .int 166 0, .int 1 0, .int 0 0, .int 0 0, .int 3 0, .ref 198, .bool true, .int 181 0, .ref 199, .none, .none, .none, .ref 200, .int 462 0, .int 166 0, .str (.ofString "/claim/cut.py") 463] }) ::
(nat_lit 202, { cls := .type "function", data := .func { name := .ofString "_law_told", qualname := .ofString "_law_told", params := k04a18, body := k04b18, scope := k04s18, globals := 3, closure := [], defaults := .none, kwdefaults := .none, pyModule := .str (.ofString "law_ik0042_04") 438, code := .ref 201 } }) ::
(nat_lit 203, { cls := .type "tuple", data := .seq #[] }) ::
(nat_lit 206, { cls := .type "code", data := .fields #[.str (.ofString "_law_depths") 465, .str (.ofString "_law_depths") 466, .str (.ofString "/claim/cut.py") 467, .int 176 0, .int 1 0, .int 0 0, .int 0 0, .int 3 0, .ref 203, .bool true, .int 181 0, .ref 204, .none, .none, .none, .ref 205, .int 468 0, .int 176 0, .str (.ofString "/claim/cut.py") 469] }) ::
(nat_lit 207, { cls := .type "function", data := .func { name := .ofString "_law_depths", qualname := .ofString "_law_depths", params := k04a19, body := k04b19, scope := k04s19, globals := 3, closure := [], defaults := .none, kwdefaults := .none, pyModule := .str (.ofString "law_ik0042_04") 438, code := .ref 206 } }) ::
(nat_lit 208, { cls := .type "tuple", data := .seq #[] }) ::
(nat_lit 210, { cls := .type "tuple", data := .seq #[.str (.ofString "sorter") 474] }) ::
(nat_lit 211, { cls := .type "tuple", data := .seq #[] }) ::
(nat_lit 213, { cls := .type "code", data := .fields #[.str (.ofString "_law_ring") 471, .str (.ofString "_law_ring") 472, .str (.ofString "/claim/cut.py") 473, .int 181 0, .int 1 0, .int 0 0, .int 0 0, .int 3 0, .ref 208, .bool true, .int 181 0, .ref 209, .none, .ref 210, .ref 211, .ref 212, .int 475 0, .int 181 0, .str (.ofString "/claim/cut.py") 476] }) ::
(nat_lit 214, { cls := .type "function", data := .func { name := .ofString "_law_ring", qualname := .ofString "_law_ring", params := k04a20, body := k04b20, scope := k04s20, globals := 3, closure := [], defaults := .none, kwdefaults := .none, pyModule := .str (.ofString "law_ik0042_04") 438, code := .ref 213 } }) ::
(nat_lit 215, { cls := .type "tuple", data := .seq #[] }) ::
(nat_lit 218, { cls := .type "code", data := .fields #[.str (.ofString "law") 478, .str (.ofString "law") 479, .str (.ofString "/claim/cut.py") 480, .int 187 0, .int 1 0, .int 0 0, .int 0 0, .int 3 0, .ref 215, .bool true, .int 181 0, .ref 216, .none, .none, .none, .ref 217, .int 481 0, .int 187 0, .str (.ofString "/claim/cut.py") 482] }) ::
(nat_lit 219, { cls := .type "function", data := .func { name := .ofString "law", qualname := .ofString "law", params := k04a21, body := k04b21, scope := k04s21, globals := 3, closure := [], defaults := .none, kwdefaults := .none, pyModule := .str (.ofString "law_ik0042_04") 438, code := .ref 218 } }) :: []
noncomputable def asK04 : List Addr := nat_lit 2 :: nat_lit 3 :: nat_lit 15 :: nat_lit 17 :: nat_lit 18 :: nat_lit 20 :: nat_lit 21 :: nat_lit 29 :: nat_lit 30 :: nat_lit 32 :: nat_lit 33 :: nat_lit 35 :: nat_lit 36 :: nat_lit 37 :: nat_lit 39 :: nat_lit 40 :: nat_lit 41 :: nat_lit 42 :: nat_lit 43 :: nat_lit 46 :: nat_lit 53 :: nat_lit 54 :: nat_lit 55 :: nat_lit 56 :: nat_lit 66 :: nat_lit 67 :: nat_lit 69 :: nat_lit 70 :: nat_lit 72 :: nat_lit 73 :: nat_lit 74 :: nat_lit 76 :: nat_lit 77 :: nat_lit 79 :: nat_lit 80 :: nat_lit 81 :: nat_lit 83 :: nat_lit 84 :: nat_lit 86 :: nat_lit 87 :: nat_lit 88 :: nat_lit 91 :: nat_lit 92 :: nat_lit 93 :: nat_lit 95 :: nat_lit 96 :: nat_lit 98 :: nat_lit 99 :: nat_lit 100 :: nat_lit 102 :: nat_lit 103 :: nat_lit 105 :: nat_lit 106 :: nat_lit 107 :: nat_lit 109 :: nat_lit 110 :: nat_lit 112 :: nat_lit 113 :: nat_lit 114 :: nat_lit 116 :: nat_lit 117 :: nat_lit 119 :: nat_lit 120 :: nat_lit 121 :: nat_lit 123 :: nat_lit 124 :: nat_lit 126 :: nat_lit 127 :: nat_lit 128 :: nat_lit 130 :: nat_lit 131 :: nat_lit 133 :: nat_lit 134 :: nat_lit 135 :: nat_lit 136 :: nat_lit 137 :: nat_lit 138 :: nat_lit 139 :: nat_lit 149 :: nat_lit 150 :: nat_lit 152 :: nat_lit 153 :: nat_lit 155 :: nat_lit 156 :: nat_lit 157 :: nat_lit 159 :: nat_lit 160 :: nat_lit 162 :: nat_lit 163 :: nat_lit 164 :: nat_lit 166 :: nat_lit 167 :: nat_lit 169 :: nat_lit 170 :: nat_lit 171 :: nat_lit 173 :: nat_lit 174 :: nat_lit 175 :: nat_lit 176 :: nat_lit 179 :: nat_lit 181 :: nat_lit 182 :: nat_lit 184 :: nat_lit 185 :: nat_lit 186 :: nat_lit 189 :: nat_lit 190 :: nat_lit 191 :: nat_lit 193 :: nat_lit 194 :: nat_lit 196 :: nat_lit 197 :: nat_lit 198 :: nat_lit 201 :: nat_lit 202 :: nat_lit 203 :: nat_lit 206 :: nat_lit 207 :: nat_lit 208 :: nat_lit 210 :: nat_lit 211 :: nat_lit 213 :: nat_lit 214 :: nat_lit 215 :: nat_lit 218 :: nat_lit 219 :: []
end Mine

namespace Mine
set_option maxRecDepth 100000
open PySem PySem.W PyProof.Rows
open Sem (wp)
theorem fill_04 : PySem.Challenge.rw_ik0042_04 = PySem.Challenge.rw_ik0042_04 ∧ K04 = K04 := by
  k_fill
  exact ⟨rfl, rfl⟩
local macro_rules | `(tactic| walk_at "mem") => `(tactic| first | assumption | exact List.mem_cons_self | (refine List.mem_cons_of_mem _ ?_; walk_at "mem"))
local macro_rules | `(tactic| walk_at "fn") => `(tactic| ((case ho => k_is); (case hcode => k_is); (case hco => rfl); (case hgen => rfl); (case hk => rfl); (case b1 => intros; rfl); (case b2 => rfl)))
local macro_rules | `(tactic| walk_at "gok") => `(tactic| first | exact gok1 ⟨rfl, fun _ _ => rfl, fun _ _ => rfl⟩ | exact gok2 ⟨rfl, fun _ _ => rfl, fun _ _ => rfl⟩ ⟨rfl, fun _ _ => rfl, fun _ _ => rfl⟩)
local macro_rules | `(tactic| walk_at "sw") => `(tactic| first | rfl | exact swaps_eq (line := 0) (.inl ⟨_, _, _, rfl⟩) (Sc.scope (by assumption)) rfl (bk_of (Sc.scope (by assumption)) rfl) | exact swaps_eq (line := 0) (.inr ⟨_, _, _, _, rfl⟩) (Sc.scope (by assumption)) rfl (bk_of (Sc.scope (by assumption)) rfl))
local macro_rules | `(tactic| walk_at "er") => `(tactic| first | exact er_builtin _ | exact er_type _ | exact er_ref _ | exact er_int _ _ | exact er_none | exact er_bool _)
local macro_rules | `(tactic| walk_at "ex") => do
  let i (s : String) : Lean.Ident := Lean.mkIdent (Lean.Name.mkSimple s)
  let j (s : String) : Lean.MacroM Lean.Ident := return Lean.mkIdent (← Lean.Macro.addMacroScope (Lean.Name.mkSimple s))
  let g (s : String) : Lean.MacroM Lean.Term := match s with | "A" => `((by assumption)) | "S" => `((Sc.scope (by assumption))) | "R" => `(rfl) | s => do `(?$(← j s))
  let t (s : String) : Lean.MacroM (Lean.TSyntax `tactic) := match s with | "r" => `(tactic| rfl) | "d" => `(tactic| decide) | "u" => `(tactic| with_unfolding_all rfl) | "k" => `(tactic| k_is) | "g" => `(tactic| walk_at "gok") | "x" => `(tactic| (intro _ _; exact ⟨_, rfl⟩)) | "s" => `(tactic| walk_at "sw") | "e" => `(tactic| walk_at "er") | _ => `(tactic| first | boot_fast | exact boot_stop)
  let r (s : String) : Lean.MacroM (Lean.TSyntax ``Lean.Parser.Tactic.tacticSeq) := do
    let z := (s.drop 1).toString
    if s.front = '+' then `(Lean.Parser.Tactic.tacticSeq| ((with_reducible refine $(i z) ?h ?hs); (case hs => rfl)))
    else if s.front = '^' then `(Lean.Parser.Tactic.tacticSeq| with_reducible refine ⟨$(i z), ?_⟩)
    else if s.front = '*' then
      let p := z.splitOn "|"
      let w := (p.headD "").splitOn " "
      let a ← (w.drop 1).toArray.mapM g
      let c ← (p.drop 1).toArray.mapM fun (x : String) => do
        let y := x.splitOn " "
        `(tactic| (case $(← j (y.headD "")):ident => $(← t (y.getD 1 "")):tactic))
      let f := w.headD ""
      if f.front = '\'' then `(Lean.Parser.Tactic.tacticSeq| ((with_reducible refine' $(i (f.drop 1).toString) $a*); $[$c]*)) else `(Lean.Parser.Tactic.tacticSeq| ((with_reducible refine $(i f) $a*); $[$c]*))
    else `(Lean.Parser.Tactic.tacticSeq| with_reducible refine $(i s) ?_)
  let a ← [
   "exs_seq",
   "exs_nil",
   "seq_next",
   "seq_ret",
   "seq_brk",
   "seq_cont",
   "loop_next",
   "loop_cont",
   "loop_brk",
   "loop_ret",
   "if_yes",
   "if_no",
   "if_nt",
   "ex_return",
   "ex_break",
   "ex_continue",
   "ex_if",
   "+ex_expr",
   "*'ex_listcompW A hx hs R h hok hb|hx r|hs r|hok g|hb r",
   "*'ex_dictcompW A hx hs R h hok hb|hx r|hs r|hok g|hb r",
   "*'ev_listcompW S h hok hb|hok g|hb r",
   "*'ev_dictcompW S h hok hb|hok g|hb r",
   "tst_nil",
   "tst_cons",
   "*ex_assign h hs hw|hs s|hw r",
   "+asgs_one",
   "+asgs_two",
   "asg_attr",
   "asg_sub",
   "*asg_nmF A hk hx h|hk r|hx r",
   "*asg_nm A hk h|hk r",
   "ex_aug_attr",
   "*'ev_var hv h hn hd|hv r|hn d|hd d",
   "*'ev_gl2 A A e hk he h hd|e k|hk r|he e|hd d",
   "*'ev_bi2 A A e hk hv hn he h hd|e k|hk r|hv b|hn d|he e|hd d",
   "^kp_builtin",
   "^kp_type",
   "ev_int",
   "ev_none",
   "ev_bool",
   "ev_list",
   "ev_tuple",
   "+ev_dict0",
   "ev_bin",
   "*ev_cmp h hm|hm u",
   "ev_and",
   "ev_bool1",
   "+ev_attr",
   "+ev_call",
   "*ev_mcall h hb hf hl|hb r|hf r|hl r",
   "*ev_mstar h hb hf|hb r|hf r",
   "*'ev_subslice_b A h hss|hss x",
   "*'ev_subslice h hss|hss x",
   "ep_some",
   "ep_none",
   "ev_sub",
   "*ev_walrus A hk h|hk r",
   "it_and_nil",
   "it_or_nil",
   "it_and",
   "it_or",
   "it_not",
   "*it_cmp h hm|hm u",
   "+it_val",
   "tr_bool",
   "tr_none",
   "bo_add",
   "io_add",
   "io_sub",
   "co_eq",
   "co_ne",
   "co_gt",
   "co_is_ref_none",
   "co_is_none_none",
   "co_isnot_none_none",
   "co_is_reftype",
   "evs_nil",
   "evs_star",
   "+evs_cons",
   "cw0",
   "cw1",
   "eva_lone",
   "+eva_plain",
   "ev_neg",
   "ev_joined1",
   "ev_str",
   "ex_del1",
   "mid_next",
   "mid_ret",
   "try_next",
   "try_brk"].toArray.mapM r
  `(tactic| first $[| $a]*)
local macro_rules | `(tactic| walk_at "for") => `(tactic| ((refine' ex_for (Room.hand (by assumption)) ?h ?hf ?ht); (case hf => intro _; rfl); (case ht => intro _ _; rfl)))
local macro_rules | `(tactic| walk_at "kpf") => `(tactic| ((refine' ⟨kp_fnK (by assumption) ?ho ?hd, ?_⟩); (case ho => k_is); (case hd => rfl)))
local macro_rules | `(tactic| walk_at "kpc") => `(tactic| ((refine' ⟨kp_class (by assumption) ?ho ?hd ?hs, ?_⟩); (case ho => k_is); (case hd => rfl); (case hs => k_is)))
local macro_rules | `(tactic| walk_at "wkl") => `(tactic| (refine WkL.all ?_; (repeat (refine ⟨?_, ?_⟩; walk_at "mem")); exact trivial))
local macro_rules | `(tactic| walk_at "wk") => `(tactic| (repeat (first | exact Wk.refl | refine Wk.cons ?_)))
local macro_rules | `(tactic| walk_at "pick") => `(tactic| (refine if_dec (fun hb0 => ?_) (fun hb0 => ?_); (focus ((repeat walk_at "ex"); (refine ⟨hb0.symm, if_yes ?_⟩); (repeat walk_at "ex"); (exact ⟨rfl, (by walk_at "wkl"), (by walk_at "wk")⟩))); (focus ((repeat walk_at "ex"); (exact ⟨hb0.symm, if_no ⟨(by walk_at "wkl"), (by walk_at "wk")⟩⟩)))))
local macro_rules | `(tactic| walk_at "le") => `(tactic| first | (refine le_N (by assumption) ?_; rfl) | (refine lt_N (by assumption) ?_; rfl) | (refine ton_N (by assumption) (by assumption) ?_; rfl) | exact ton_n (by assumption) | (refine int_N (by assumption) (by assumption) ?_; rfl) | (refine int_L (by assumption) (by assumption) ?_; rfl) | omega)
section
variable {C : Cfg} {A : Around} {fx : Fx} {m : Lo} {H R : AH} {X : Value → Lo → AH → Prop} {Q : Value → Lo → AH → Prop} {n : Nat}
noncomputable abbrev liIt (l : Value) (i : Nat) : AO := .flds (.type "list_iterator") [l, vI i]
theorem ff_init {x dx w l : Addr} {xs : List Value} (T : Top C (K04 C.w.params)) (hR : Room A (n + 1)) (hl : (l, AO.list xs) ∈ R)
    (h : ∀ I, I ∉ AH.keys ((x, .inst 174 (some dx) []) :: (dx, .ns []) :: R) → Q .none m ((I, liIt (.ref l) 0) :: (x, .inst 174 (some dx) [some (.ref w), some (.ref I)]) :: (dx, .ns []) :: R)) :
    CALLC C A fx (.ref 156) [.ref x, .ref w, .ref l] m ((x, .inst 174 (some dx) []) :: (dx, .ns []) :: R) Q X := by
  refine callc_nodup fun hnd => ?_
  obtain ⟨n1, n2, n3⟩ : x ≠ dx ∧ x ∉ R.keys ∧ dx ∉ R.keys := by
    simp only [keys_cons, List.nodup_cons, List.mem_cons, not_or] at hnd
    exact ⟨hnd.1.1, hnd.1.2, hnd.2.1⟩
  refine' call3 hR (fnAt (T := T) ?ho ?hcode ?hco ?hgen ?hk) "self" "function" "iterable" ?b1 ?b2 ?body
  walk_at "fn"
  intro A' fx' hR' Z
  repeat walk_at "ex"
  refine call_iter_l (List.mem_cons_of_mem _ (List.mem_cons_of_mem _ hl)) fun I hI => ?_
  have hI' := hI
  simp only [keys_cons, List.mem_cons, not_or] at hI'
  obtain ⟨i1, i2, i3⟩ := hI'
  repeat walk_at "ex"
  refine sa_slot (T := T) (p := 176) (i := 1) (by kernel_rfl) (by decide) (List.mem_cons_of_mem _ List.mem_cons_self) (List.mem_cons_of_mem _ (List.mem_cons_of_mem _ List.mem_cons_self)) ?_
  rw [put_cons, if_neg i1, put_head (by simp only [keys_cons, List.mem_cons, not_or]; exact ⟨n1, n2⟩)]
  repeat walk_at "ex"
  refine sa_slot (T := T) (p := 175) (i := 0) (by kernel_rfl) (by decide) (List.mem_cons_of_mem _ List.mem_cons_self) (List.mem_cons_of_mem _ (List.mem_cons_of_mem _ List.mem_cons_self)) ?_
  rw [put_cons, if_neg i1, put_head (by simp only [keys_cons, List.mem_cons, not_or]; exact ⟨n1, n2⟩)]
  repeat walk_at "ex"
  exact h I hI
theorem ff_iter {x : Addr} (T : Top C (K04 C.w.params)) (hR : Room A (n + 1)) (h : Q (.ref x) m H) : CALLC C A fx (.ref 163) [.ref x] m H Q X := by
  refine' call1 hR (fnAt (T := T) ?ho ?hcode ?hco ?hgen ?hk) "self" ?b1 ?b2 ?body
  walk_at "fn"
  intro A' fx' hR' Z
  repeat walk_at "ex"
  exact h

theorem ff_next {x dx w l sk I : Addr} {xs ys : List Value} {e : Value → Value → Bool} {i : Nat} (T : Top C (K04 C.w.params)) (hR : Room A (n + 1)) (hl : (l, AO.list xs) ∈ R) (hw : (w, AO.flds (.type "method-wrapper") [.builtin "list.__contains__", .ref sk]) ∈ R) (hs : (sk, AO.list ys) ∈ R)
    (he : ∀ y ∈ ys, ∀ u ∈ xs, EQV C R y u (e y u)) (hi : i ≤ xs.length)
    (h1 : ∀ k v H', i ≤ k → xs[k]? = some v → (ys.any fun y => e y v) = false → (∀ j u, i ≤ j → j < k → xs[j]? = some u → (ys.any fun y => e y u) = true) → Wk H' ((I, liIt (.ref l) (k + 1)) :: (x, .inst 174 (some dx) [some (.ref w), some (.ref I)]) :: (dx, .ns []) :: R) → Q v m H')
    (h2 : ∀ ev H' R', (∀ j u, i ≤ j → xs[j]? = some u → (ys.any fun y => e y u) = true) → ExnT ev (.type "StopIteration") .none R' H' → Wk R' ((x, .inst 174 (some dx) [some (.ref w), some (.ref I)]) :: (dx, .ns []) :: R) → X (.ref ev) m H') :
    CALLC C A fx (.ref 170) [.ref x] m ((I, liIt (.ref l) i) :: (x, .inst 174 (some dx) [some (.ref w), some (.ref I)]) :: (dx, .ns []) :: R) Q X := by
  refine callc_nodup fun hnd => ?_
  obtain ⟨i1, i2, i3, n1, n2, n3⟩ : I ≠ x ∧ I ≠ dx ∧ I ∉ R.keys ∧ x ≠ dx ∧ x ∉ R.keys ∧ dx ∉ R.keys := by
    simp only [keys_cons, List.nodup_cons, List.mem_cons, not_or] at hnd
    exact ⟨hnd.1.1, hnd.1.2.1, hnd.1.2.2, hnd.2.1.1, hnd.2.1.2, hnd.2.2.1⟩
  refine' call1x hR (fnAt (T := T) ?ho ?hcode ?hco ?hgen ?hk) "self" ?b1 ?b2 ?body
  walk_at "fn"
  intro A' fx' hR' hh Z
  repeat walk_at "ex"
  refine ga_slot (T := T) (p := 175) (i := 0) (by kernel_rfl) (List.mem_cons_of_mem _ List.mem_cons_self) (List.mem_cons_of_mem _ (List.mem_cons_of_mem _ List.mem_cons_self)) rfl rfl ?_
  repeat walk_at "ex"
  refine ex_whileX hh (fun k m' H' => ∃ i', i ≤ i' ∧ i' ≤ xs.length ∧ k = xs.length - i' ∧ (∀ j u, i ≤ j → j < i' → xs[j]? = some u → (ys.any fun y => e y u) = true) ∧
    WkL m' [("func", .ref w), ("self", .ref x)] ∧ Wk H' ((I, liIt (.ref l) i') :: (x, .inst 174 (some dx) [some (.ref w), some (.ref I)]) :: (dx, .ns []) :: R)) (xs.length - i) ⟨i, Nat.le_refl _, hi, rfl, fun j u a b => by omega, WkL.refl, Wk.refl⟩ ?_
  rintro k m' H' ⟨i', hi1, hi2, rfl, hsk, hm, hH⟩
  refine aw_wk hm hH ?_
  repeat walk_at "ex"
  refine ga_slot (T := T) (p := 176) (i := 1) (by kernel_rfl) (List.mem_cons_of_mem _ List.mem_cons_self) (List.mem_cons_of_mem _ (List.mem_cons_of_mem _ List.mem_cons_self)) rfl rfl ?_
  repeat walk_at "ex"
  have hmem : ∀ {p : Addr × AO} {a b c : Addr × AO}, p ∈ R → p ∈ a :: b :: c :: R := fun h => List.mem_cons_of_mem _ (List.mem_cons_of_mem _ (List.mem_cons_of_mem _ h))
  cases hx : xs[i']? with
  | none =>
    refine call_next_end hR'.hand List.mem_cons_self (hmem hl) hx fun ev hev => ?_
    rw [put_head (by simp only [keys_cons, List.mem_cons, not_or]; exact ⟨i1, i2, i3⟩)]
    refine ⟨ev, _, _, rfl, .inl rfl, fun H₁ hT => ⟨ev, _, _, rfl, .inr (.inr hT), fun H₂ hT' => h2 ev H₂ _ (fun j u hj hu => ?_) hT' (Wk.cons Wk.refl)⟩⟩
    have hlt := (List.getElem?_eq_some_iff.mp hu).1
    have := List.getElem?_eq_none_iff.mp hx
    exact hsk j u hj (Nat.lt_of_lt_of_le hlt this) hu
  | some v =>
    have hlt := (List.getElem?_eq_some_iff.mp hx).1
    refine call_next List.mem_cons_self (hmem hl) hx ?_
    rw [put_head (by simp only [keys_cons, List.mem_cons, not_or]; exact ⟨i1, i2, i3⟩)]
    repeat walk_at "ex"
    refine ⟨kp_bmethod (hmem hw) (.inr rfl), (call_wcontains (by have := hR'.eq2; walk_at "le") (e := fun y => e y v) (hmem hw) (hmem hs) (fun y hy => (he y hy v (List.mem_of_getElem? hx)).wk (Wk.cons (Wk.cons (Wk.cons Wk.refl)))) ?_).call⟩
    repeat walk_at "ex"
    refine if_dec (fun hb => ?_) (fun hb => ?_)
    · repeat walk_at "ex"
      exact h1 i' v _ hi1 hx (by simpa using hb) hsk Wk.refl
    · repeat walk_at "ex"
      refine ⟨xs.length - (i' + 1), lt_down hlt, i' + 1, Nat.le_succ_of_le hi1, hlt, rfl, fun j u hj1 hj2 hu => ?_, WkL.cons WkL.refl, Wk.refl⟩
      by_cases hj : j < i'
      · exact hsk j u hj1 hj hu
      · have : j = i' := Nat.le_antisymm (Nat.le_of_lt_succ hj2) (Nat.not_lt.mp hj)
        subst this
        rw [hx] at hu
        cases hu
        simpa using hb
end

section
variable {C : Cfg} {A : Around} {fx : Fx} {m : Lo} {H R : AH} {X : Value → Lo → AH → Prop} {Q : Value → Lo → AH → Prop} {n : Nat}
theorem take_step {xs : List Value} {keep : Value → Bool} : ∀ (k i : Nat) (v : Value), i ≤ k → xs[k]? = some v → keep v = true → (∀ j u, i ≤ j → j < k → xs[j]? = some u → keep u = false) → (xs.take (k + 1)).filter keep = (xs.take i).filter keep ++ [v]
  | k, i, v, hik, hk, hv, hsk => by
    have h1 : xs.take (k + 1) = xs.take k ++ [v] := by
      rw [List.take_add_one, hk]; rfl
    rw [h1, List.filter_append]
    have h2 : (xs.take k).filter keep = (xs.take i).filter keep := by
      have : xs.take k = xs.take i ++ (xs.drop i).take (k - i) := by
        rw [← List.take_append_drop i (xs.take k), List.take_take, Nat.min_eq_left hik, List.drop_take]
      rw [this, List.filter_append]
      have h3 : ((xs.drop i).take (k - i)).filter keep = [] := by
        rw [List.filter_eq_nil_iff]
        intro u hu
        obtain ⟨j, hj, e⟩ := List.getElem_of_mem hu
        have hj' : j < k - i := by
          rw [List.length_take] at hj; exact Nat.lt_of_lt_of_le hj (Nat.min_le_left _ _)
        have := hsk (i + j) u (Nat.le_add_right i j) (Nat.add_lt_of_lt_sub' hj') (by
          rw [← List.getElem?_drop, ← List.getElem?_take_of_lt hj', List.getElem?_eq_getElem hj, e])
        simp [this]
      rw [h3, List.append_nil]
    rw [h2]
    simp [hv]
theorem take_end {xs : List Value} {keep : Value → Bool} (i : Nat) (hsk : ∀ j u, i ≤ j → xs[j]? = some u → keep u = false) : xs.filter keep = (xs.take i).filter keep := by
  rw [← List.take_append_drop i xs, List.filter_append, List.take_append_drop]
  have : (xs.drop i).filter keep = [] := by
    rw [List.filter_eq_nil_iff]
    intro u hu
    obtain ⟨j, hj, e⟩ := List.getElem_of_mem hu
    have := hsk (i + j) u (Nat.le_add_right i j) (by rw [← List.getElem?_drop, List.getElem?_eq_getElem hj, e])
    simp [this]
  rw [this, List.append_nil]
theorem filter_ok {l sk : Addr} {xs ys : List Value} (e : Value → Value → Bool) (T : Top C (K04 C.w.params)) (hR : Room A (n + 3)) (hl : (l, AO.list xs) ∈ H) (hs : (sk, AO.list ys) ∈ H) (hz : xs.length < 1000000)
    (he : ∀ y ∈ ys, ∀ u ∈ xs, EQV C H y u (e y u)) (h : ∀ D, D ∉ H.keys → Q (.ref D) m ((D, .list (xs.filter fun u => !(ys.any fun y => e y u))) :: H)) : CALLC C A fx (.ref 185) [.ref l, .ref sk] m H Q X := by
  refine callc_wkp ?_
  refine' call2 hR (fnAt (T := T) ?ho ?hcode ?hco ?hgen ?hk) "flist" "skip" ?b1 ?b2 ?body
  walk_at "fn"
  intro A' fx' hR' Z
  repeat walk_at "ex"
  refine ga_wcontains hs fun w hw => ?_
  repeat walk_at "ex"
  refine' ⟨kp_class T ?ho' ?hd' ?hs', ?_⟩
  case ho' => k_is
  case hd' => rfl
  case hs' => k_is
  refine (call_make (T := T) (f := 156) ?hm' ?hi' ?hf' ?_).call
  case hm' => k_is
  case hi' => k_is
  case hf' => k_is
  intro A₂ x dx hN hx hdx hne
  refine ff_init T (hR'.near hN) (List.mem_cons_of_mem _ hl) fun I hI => ⟨rfl, ?_⟩
  repeat walk_at "ex"
  simp only [keys_cons, List.mem_cons, not_or] at hx hdx hI
  refine call_list_own (T := T) (f := 163) (g := .ref 170) (sl := [some (.ref w), some (.ref I)]) (fs := []) (fun D k m' H' => ∃ i, i ≤ xs.length ∧ k = xs.length - i ∧ m' = ([("flist", .ref l), ("skip", .ref sk)] : Lo) ∧
    Wk H' ((I, liIt (.ref l) i) :: (x, .inst 174 (some dx) [some (.ref w), some (.ref I)]) :: (dx, .ns []) :: (D, .list ((xs.take i).filter fun u => !(ys.any fun y => e y u))) :: (w, .flds (.type "method-wrapper") [.builtin "list.__contains__", .ref sk]) :: H)) xs.length ?hi ?hn ?hl (List.mem_cons_of_mem _ List.mem_cons_self) (List.mem_cons_of_mem _ (List.mem_cons_of_mem _ List.mem_cons_self)) ?h0 ?turn
  case hi => kernel_rfl
  case hn => k_is
  case hl => kernel_rfl
  case h0 =>
    intro D hD
    refine (ff_iter T (hR'.in2) ?_).call
    refine ⟨rfl, ⟨_, List.mem_cons_of_mem _ (List.mem_cons_of_mem _ List.mem_cons_self)⟩, ⟨_, List.mem_cons_of_mem _ (List.mem_cons_of_mem _ (List.mem_cons_of_mem _ List.mem_cons_self))⟩, List.mem_cons_self, 0, Nat.zero_le _, rfl, rfl, ?_⟩
    rw [put_head hD]
    exact Wk.swap.trans (Wk.keep (Wk.swap.trans (Wk.keep Wk.swap)))
  case turn =>
    intro D hD k m' H' hJ
    obtain ⟨i, hi, rfl, rfl, hW⟩ := hJ
    refine aw_wk WkL.refl hW ?_
    simp only [keys_cons, List.mem_cons, not_or] at hD
    refine aw_mono (Q := fun r m' H' => match r with
      | some v => ∃ acc k, k < xs.length - i ∧ (D, AO.list acc) ∈ H' ∧ acc.length < 1000000 ∧ ∃ i, i ≤ xs.length ∧ k = xs.length - i ∧ m' = ([("flist", .ref l), ("skip", .ref sk)] : Lo) ∧
        Wk (H'.put D (.list (acc ++ [er v]))) ((I, liIt (.ref l) i) :: (x, .inst 174 (some dx) [some (.ref w), some (.ref I)]) :: (dx, .ns []) :: (D, .list ((xs.take i).filter fun u => !(ys.any fun y => e y u))) :: (w, .flds (.type "method-wrapper") [.builtin "list.__contains__", .ref sk]) :: H)
      | none => ∃ H'', Wk H' H'' ∧ Q (.ref D) m H'') ?_ (fun r m' H' q => by cases r <;> exact q) fun _ _ _ z => z
    refine aw_next_own (T := T) (Qs := fun v m' H' => ∃ acc k, k < xs.length - i ∧ (D, AO.list acc) ∈ H' ∧ acc.length < 1000000 ∧ ∃ i, i ≤ xs.length ∧ k = xs.length - i ∧ m' = ([("flist", .ref l), ("skip", .ref sk)] : Lo) ∧
        Wk (H'.put D (.list (acc ++ [v]))) ((I, liIt (.ref l) i) :: (x, .inst 174 (some dx) [some (.ref w), some (.ref I)]) :: (dx, .ns []) :: (D, .list ((xs.take i).filter fun u => !(ys.any fun y => e y u))) :: (w, .flds (.type "method-wrapper") [.builtin "list.__contains__", .ref sk]) :: H))
      (Qn := fun m' H' => ∃ H'', Wk H' H'' ∧ Q (.ref D) m H'') (f := 170) (sl := [some (.ref w), some (.ref I)]) (fs := []) ?hn (List.mem_cons_of_mem _ List.mem_cons_self) (List.mem_cons_of_mem _ (List.mem_cons_of_mem _ List.mem_cons_self)) ?_
    case hn => kernel_rfl
    refine (ff_next (e := e) T (hR'.in2) (List.mem_cons_of_mem _ (List.mem_cons_of_mem _ hl)) (List.mem_cons_of_mem _ List.mem_cons_self) (List.mem_cons_of_mem _ (List.mem_cons_of_mem _ hs)) (fun y hy u hu => (he y hy u hu).wk (Wk.cons (Wk.cons Wk.refl))) hi ?_ ?_).call
    · intro k v H'' hik hk hkeep hsk hW''
      have hlt := (List.getElem?_eq_some_iff.mp hk).1
      obtain ⟨d1, d2, d3, d4, d5⟩ := hD
      refine ⟨_, xs.length - (k + 1), Nat.sub_lt_sub_left (Nat.lt_of_le_of_lt hik hlt) (Nat.lt_succ_of_le hik), hW''.1 _ (List.mem_cons_of_mem _ (List.mem_cons_of_mem _ (List.mem_cons_of_mem _ List.mem_cons_self))), ?_, k + 1, hlt, rfl, rfl, ?_⟩
      · have h1 := List.length_filter_le (fun u => !(ys.any fun y => e y u)) (xs.take i)
        rw [List.length_take] at h1
        exact Nat.lt_of_le_of_lt (Nat.le_trans h1 (Nat.min_le_right _ _)) hz
      · have hp := hW''.put (a := D) (o := .list ((xs.take (k + 1)).filter fun u => !(ys.any fun y => e y u)))
        rw [put_cons, put_cons, put_cons, put_cons, put_cons, if_neg (Ne.symm d1), if_neg (Ne.symm d2), if_neg (Ne.symm d3), if_pos rfl, if_neg (Ne.symm d4), put_none d5] at hp
        rw [← take_step k i v hik hk (by simp [hkeep]) fun j u a b c => by simp [hsk j u a b c]]
        exact hp
    · intro ev H'' R' hsk hT hW''
      refine ⟨ev, R', _, rfl, hT, _, hW''.trans (Wk.cons (Wk.cons (Wk.keep (Wk.cons Wk.refl)))), ?_⟩
      rw [← take_end i fun j u a c => by simp [hsk j u a c]]
      exact h D hD.2.2.2.2
end

section
variable {C : Cfg} {A : Around} {fx : Fx} {m : Lo} {H R : AH} {X : Value → Lo → AH → Prop} {Q : Value → Lo → AH → Prop} {n : Nat} {σ : SS}
noncomputable abbrev SCX (σ : SS) : AH := SC 40 137 σ
theorem nodeInit {x dx : Addr} {k : Int} (T : Top C (K04 C.w.params)) (hR : Room A (n + 1))
    (h : ∀ l, l ∉ AH.keys ((x, .inst 40 (some dx) []) :: (dx, .ns []) :: H) → Q .none m ((l, .list []) :: (x, .inst 40 (some dx) [some (vI k), some (vI 0), some (.ref l)]) :: (dx, .ns []) :: H)) :
    CALLC C A fx (.ref 36) [.ref x, vI k] m ((x, .inst 40 (some dx) []) :: (dx, .ns []) :: H) Q X := by
  refine callc_nodup fun hnd => ?_
  obtain ⟨n1, n2, n3⟩ : x ≠ dx ∧ x ∉ H.keys ∧ dx ∉ H.keys := by
    simp only [keys_cons, List.nodup_cons, List.mem_cons, not_or] at hnd
    exact ⟨hnd.1.1, hnd.1.2, hnd.2.1⟩
  have hx' : x ∉ AH.keys ((dx, AO.ns []) :: H) := by simp only [keys_cons, List.mem_cons, not_or]; exact ⟨n1, n2⟩
  refine' call2 hR (fnAt (T := T) ?ho ?hcode ?hco ?hgen ?hk) "self" "node" ?b1 ?b2 ?body
  walk_at "fn"
  intro A' fx' hR' Z
  repeat walk_at "ex"
  refine sa_slot (T := T) (p := 41) (i := 0) (by kernel_rfl) (by decide) List.mem_cons_self (List.mem_cons_of_mem _ List.mem_cons_self) ?_
  rw [put_head hx']
  repeat walk_at "ex"
  refine sa_slot (T := T) (p := 42) (i := 1) (by kernel_rfl) (by decide) List.mem_cons_self (List.mem_cons_of_mem _ List.mem_cons_self) ?_
  rw [put_head hx']
  repeat walk_at "ex"
  refine ⟨by decide, fun l hl => ?_⟩
  have hl' := hl
  simp only [keys_cons, List.mem_cons, not_or] at hl'
  repeat walk_at "ex"
  refine sa_slot (T := T) (p := 43) (i := 2) (by kernel_rfl) (by decide) (List.mem_cons_of_mem _ List.mem_cons_self) (List.mem_cons_of_mem _ (List.mem_cons_of_mem _ List.mem_cons_self)) ?_
  rw [put_cons, if_neg hl'.1, put_head hx']
  repeat walk_at "ex"
  exact h l hl
end

section
variable {C : Cfg} {A : Around} {fx : Fx} {m : Lo} {H R : AH} {X : Value → Lo → AH → Prop} {Q : Value → Lo → AH → Prop} {n : Nat} {σ : SS}
theorem getInfo {k : Int} (T : Top C (K04 C.w.params)) (hR : Room A (n + 3)) (ok : σ.Ok) (hz : σ.recs.length ≤ 100000)
    (h : ∀ σ' r, σ'.Ok → SS.Same σ σ' → σ'.g = gEns σ.g k → r ∈ σ'.recs → r.node = k → Q (.ref r.ia) m (SCX σ' ++ R)) : CALLC C A fx (.ref 80) [.ref σ.sa, vI k] m (SCX σ ++ R) Q X := by
  refine callc_nodup fun hnd => ?_
  refine callc_wkp ?_
  refine' call2 hR (fnAt (T := T) ?ho ?hcode ?hco ?hgen ?hk) "self" "node" ?b1 ?b2 ?body
  walk_at "fn"
  intro A' fx' hR' Z
  have l1 : σ.fs.lookup ("_node2info" : PySem.Str) = some (Value.ref σ.nd) := ok.fs _
  repeat walk_at "ex"
  refine ga_dict (T := T) (by kernel_rfl) sc_sa sc_sd l1 rfl ?_
  repeat walk_at "ex"
  refine gm_dict sc_nd PySem.F.slot_dict_get PySem.F.type_dict_get ?_
  repeat walk_at "ex"
  by_cases hk : k ∈ σ.recs.map (·.node)
  · obtain ⟨r, hr, rfl⟩ := rec_of hk
    refine call_get_some sc_nd (dval_rec ok hr) ?_
    repeat walk_at "ex"
    exact ⟨_, Wk.refl, h σ r ok SS.Same.refl (by unfold gEns; rw [g_nodes, if_pos hk]) hr rfl⟩
  · refine call_get_none sc_nd (dval_not (by rw [kvs_nodes]; exact hk)) ?_
    repeat walk_at "ex"
    refine' ⟨kp_class T ?ho' ?hd' ?hs', ?_⟩
    case ho' => k_is
    case hd' => rfl
    case hs' => k_is
    refine (call_make (T := T) (f := 36) ?hm' ?hi' ?hf' ?_).call
    case hm' => k_is
    case hi' => k_is
    case hf' => k_is
    intro A₂ x dx hN hx hdx hne
    refine nodeInit T (hR'.near hN) fun l hl => ⟨rfl, ?_⟩
    repeat walk_at "ex"
    refine ga_dict (T := T) (by kernel_rfl) (up3 sc_sa) (up3 sc_sd) l1 rfl ?_
    repeat walk_at "ex"
    refine si_dict (up3 sc_nd) (by unfold SS.kvs; rw [List.length_map]; walk_at "le") fun ep' => ?_
    simp only [keys_cons, List.mem_cons, not_or] at hl
    have hndk : σ.nd ∈ AH.keys (SCX σ ++ R) := mem_keys sc_nd
    rw [put_cons, put_cons, put_cons, if_neg (fun e => hl.2.2 (by rw [e]; exact hndk)), if_neg (fun e => hx (by rw [e]; exact hndk)), if_neg (fun e => hdx (by rw [e]; exact hndk)), put_nd hnd, stored_not (by rw [kvs_nodes]; exact hk)]
    repeat walk_at "ex"
    exact ⟨_, (Wk.swap.trans (Wk.keep Wk.swap)).trans (wk_more (r := ⟨k, x, dx, l, 0, []⟩)), h (σ.more ⟨k, x, dx, l, 0, []⟩ ep') ⟨k, x, dx, l, 0, []⟩ (more_ok ok hk) ⟨rfl, rfl, rfl, rfl, rfl, rfl⟩ (more_g hk) (List.mem_append_right _ (List.mem_singleton.mpr rfl)) rfl⟩
end

section
variable {C : Cfg} {A : Around} {fx : Fx} {m : Lo} {H R : AH} {X : Value → Lo → AH → Prop} {Q : Value → Lo → AH → Prop} {n : Nat} {σ : SS}
theorem add_ok {k : Int} {ps : List Int} {b : Nat} (T : Top C (K04 C.w.params)) (hR : Room A (n + 4)) (ok : σ.Ok) (hrdy : σ.rdy = none) (hb : Bd σ.g b) (hz : b + 2 * ps.length ≤ 90000)
    (h : ∀ σ', σ'.Ok → SS.Same σ σ' → σ'.g = gAdd σ.g k ps → Q .none m (SCX σ' ++ R)) : CALLC C A fx (.ref 87) (.ref σ.sa :: vI k :: iv ps) m (SCX σ ++ R) Q X := by
  refine callc_wkp ?_
  refine' callV2 hR (fnAt (T := T) ?ho ?hcode ?hco ?hgen ?hk) "self" "node" "predecessors" ?b1 ?b2 ?hz ?body
  case ho => k_is
  case hcode => k_is
  case hco => rfl
  case hgen => rfl
  case hk => rfl
  case b1 => intro a c r; cases r <;> rfl
  case b2 => rfl
  case hz => rw [List.length_map]; walk_at "le"
  intro A' fx' t ht hR' hh Z
  have l1 : σ.fs.lookup ("_ready_nodes" : PySem.Str) = some Value.none := by rw [ok.fs]; show some σ.rv = _; unfold SS.rv; rw [hrdy]
  refine exs_wk WkL.refl (Wk.perm (List.perm_middle (l₁ := SCX σ) (l₂ := R)).symm) ?_
  repeat walk_at "ex"
  refine ga_dict (T := T) (by kernel_rfl) sc_sa sc_sd l1 rfl ?_
  repeat walk_at "ex"
  refine gm_own (T := T) (f := 80) (by kernel_rfl) sc_sa sc_sd (ok.none (by rintro (e | e | e | e) <;> exact absurd e (by decide))) ?_
  repeat walk_at "ex"
  refine' ⟨kp_fnK T ?ho ?hd, ?_⟩
  case ho => k_is
  case hd => rfl
  refine (getInfo T hR' ok (by have := hb.len; rw [recs_len]; walk_at "le") fun σ₁ r ok₁ sm₁ hg₁ hr₁ hn₁ => ?_).call
  repeat walk_at "ex"
  refine ga_slot (T := T) (p := 42) (i := 1) (by kernel_rfl) (rec_ia hr₁) (rec_id hr₁) rfl rfl ?_
  repeat walk_at "ex"
  refine call_len_t (List.mem_append_right _ List.mem_cons_self) (by rw [List.length_map]; walk_at "le") ?_
  repeat walk_at "ex"
  refine sa_slot (T := T) (p := 42) (i := 1) (by kernel_rfl) (by decide) (rec_ia hr₁) (rec_id hr₁) ?_
  refine seq_next (exs_nodup fun hnd => ?_)
  rw [AH.keys_put] at hnd
  rw [show slSet [some (vI r.node), some (vI r.np), some (Value.ref r.la)] 1 (vI (r.np + ((iv ps).length : Int))) = [some (vI r.node), some (vI ((fun x => x + (ps.length : Int)) r.np)), some (Value.ref r.la)] from by rw [List.length_map]; rfl, put_npf (fun x => x + (ps.length : Int)) hnd ok₁ hr₁]
  generalize hσ₂ : ({ σ₁ with recs := updR' σ₁.recs r.node fun q => { q with np := (fun x => x + (ps.length : Int)) q.np } } : SS) = σ₂
  have ok₂ : σ₂.Ok := hσ₂ ▸ Ok_upd ok₁ fun _ => rfl
  have sm₂ : SS.Same σ σ₂ := sm₁.trans (hσ₂ ▸ ⟨rfl, rfl, rfl, rfl, rfl, rfl⟩)
  have hg₂ : σ₂.g = gNp (gEns σ.g k) k ps.length := by
    have e := g_upd (σ := σ₁) (k := r.node) (f := fun q => { q with np := (fun x => x + (ps.length : Int)) q.np }) (F := fun x => (x.1 + (ps.length : Int), x.2)) fun q => ⟨rfl, rfl⟩
    rw [hσ₂, hg₁, hn₁] at e
    exact e
  clear hσ₂
  repeat walk_at "ex"
  walk_at "for"
  repeat walk_at "ex"
  refine ⟨iv ps, _, itr_tup hR'.hand (List.mem_append_right _ List.mem_cons_self), fun i m' H' => ∃ σ', σ'.Ok ∧ SS.Same σ σ' ∧ σ'.g = (ps.take i).foldl (gPred k) (gNp (gEns σ.g k) k ps.length) ∧
    WkL m' [("self", .ref σ.sa), ("node", vI k)] ∧ Wk H' (SCX σ' ++ (t, .tup (iv ps)) :: R), ⟨σ₂, ok₂, sm₂, hg₂, ?_, Wk.refl⟩, ?_, ?_, ?_⟩
  · walk_at "wkl"
  · rintro i m' H' ⟨σ', _, _, _, _, hW⟩
    exact hW.1 _ (List.mem_append_right _ List.mem_cons_self)
  · rintro i v m' H' hv ⟨σ', ok', sm', hg', hm, hW⟩
    obtain ⟨p, hp, rfl⟩ := iv_get hv
    rw [← sm'.sa] at hm
    refine asg_wk hm hW ?_
    repeat walk_at "ex"
    refine gm_own (T := T) (f := 80) (by kernel_rfl) sc_sa sc_sd (ok'.none (by rintro (e | e | e | e) <;> exact absurd e (by decide))) ?_
    repeat walk_at "ex"
    walk_at "kpf"
    have hlt := (List.getElem?_eq_some_iff.mp hp).1
    have hb' : Bd σ'.g (b + 1 + 2 * i) := by
      rw [hg']
      have := Bd.fold (k := k) (ps.take i) (Bd.np (k := k) (v := ps.length) (hb.ens (k := k)))
      rw [List.length_take, Nat.min_eq_left (Nat.le_of_lt hlt)] at this
      exact this
    refine (getInfo T hR' ok' (by have := hb'.len; rw [recs_len]; walk_at "le") fun σ₃ r₃ ok₃ sm₃ hg₃ hr₃ hn₃ => ?_).call
    repeat walk_at "ex"
    refine ga_slot (T := T) (p := 43) (i := 2) (by kernel_rfl) (rec_ia hr₃) (rec_id hr₃) rfl rfl ?_
    repeat walk_at "ex"
    refine gm_list (rec_la hr₃) PySem.F.slot_list_append PySem.F.type_list_append ?_
    repeat walk_at "ex"
    have hb₃ : Bd σ₃.g (b + 1 + 2 * i + 1) := by rw [hg₃]; exact hb'.ens
    refine call_append (rec_la hr₃) (by have := recs_su hb₃ hr₃; rw [List.length_map]; walk_at "le") ?_
    refine seq_next (exs_nodup fun hnd₃ => ?_)
    rw [AH.keys_put] at hnd₃
    rw [show iv r₃.su ++ [vI k] = iv ((fun l => l ++ [k]) r₃.su) from by show _ = iv (r₃.su ++ [k]); rw [iv_append]; rfl, put_suf (fun l => l ++ [k]) hnd₃ ok₃ hr₃]
    obtain ⟨σ₄, hσ₄⟩ : ∃ σ₄ : SS, σ₄ = { σ₃ with recs := updR' σ₃.recs r₃.node fun q => { q with su := (fun l => l ++ [k]) q.su } } := ⟨_, rfl⟩
    rw [← hσ₄]
    repeat walk_at "ex"
    refine ⟨σ₄, hσ₄ ▸ Ok_upd ok₃ fun _ => rfl, sm'.trans (sm₃.trans (hσ₄ ▸ ⟨rfl, rfl, rfl, rfl, rfl, rfl⟩)), ?_, ?_, Wk.refl⟩
    · have e := g_upd (σ := σ₃) (k := r₃.node) (f := fun q => { q with su := (fun l => l ++ [k]) q.su }) (F := fun x => (x.1, x.2 ++ [k])) fun q => ⟨rfl, rfl⟩
      rw [← hσ₄, hg₃, hn₃] at e
      rw [fold_take _ _ hp, ← hg']
      exact e
    · rw [← sm'.sa]
      walk_at "wkl"
  · rintro m' H' ⟨σ', ok', sm', hg', hm, hW⟩
    rw [List.length_map, List.take_length] at hg'
    repeat walk_at "ex"
    exact ⟨_, hW.trans (Wk.sub (List.Sublist.append_left (List.sublist_cons_self _ _) _)), h σ' ok' sm' hg'⟩
end

section
variable {C : Cfg} {A : Around} {fx : Fx} {m : Lo} {H R : AH} {X : Value → Lo → AH → Prop} {Q : Value → Lo → AH → Prop} {n : Nat}
noncomputable def fs0 (nd : Addr) : List (PySem.Str × Value) := nsPut (nsPut (nsPut (nsPut [] "_node2info" (.ref nd)) "_ready_nodes" .none) "_npassedout" (vI 0)) "_nfinished" (vI 0)
noncomputable def ss0 (sa sd nd : Addr) : SS := ⟨sa, sd, nd, fs0 nd, 0, [], none, 0, 0⟩
theorem ss0_ok {sa sd nd : Addr} : (ss0 sa sd nd).Ok := by
  refine ⟨fun y => ?_, Nat.le_trans (Nat.le_of_eq rfl) (show 4 ≤ 100 by decide), List.nodup_nil⟩
  show (fs0 nd).lookup y = _
  unfold fs0 SS.look
  rw [nsPut_lookup, nsPut_lookup, nsPut_lookup, nsPut_lookup]
  by_cases h1 : y = "_nfinished"
  · subst h1; rfl
  · by_cases h2 : y = "_npassedout"
    · subst h2; rfl
    · by_cases h3 : y = "_ready_nodes"
      · subst h3; rfl
      · by_cases h4 : y = "_node2info"
        · subst h4; rfl
        · simp only [if_neg h1, if_neg h2, if_neg h3, if_neg h4]; rfl
theorem init0 {x dx : Addr} (T : Top C (K04 C.w.params)) (hR : Room A (n + 1))
    (h : ∀ nd, Q .none m (SCX (ss0 x dx nd) ++ R)) : CALLC C A fx (.ref 73) [.ref x] m ((x, .inst 137 (some dx) []) :: (dx, .ns []) :: R) Q X := by
  refine callc_nodup fun hnd => ?_
  refine callc_wkp ?_
  refine' callD (bs := [("self", .ref x), ("graph", .none)]) hR (fnAt (T := T) ?ho ?hcode ?hco ?hgen ?hk) ?hd T ?hoT ?hs ?binds ?hb ?hB ?h
  case ho => k_is
  case hcode => k_is
  case hco => rfl
  case hgen => rfl
  case hk => rfl
  case hd => rfl
  case hoT => k_is
  case hs => rfl
  case binds => exact fun vs => [("self", vs.headD .none), ("graph", .none)]
  case hb =>
    intro vs hvs
    obtain ⟨a, rfl, ha⟩ := er1 hvs
    exact ⟨_, rfl, rfl⟩
  case hB =>
    intro vs hvs
    obtain ⟨a, rfl, ha⟩ := er1 hvs
    exact ⟨bindOk_of rfl, by show [(_, er a), (_, er .none)] = _; rw [ha]; rfl⟩
  intro A' fx' hR' hh Z
  obtain ⟨n1, n2, n3⟩ : x ≠ dx ∧ x ∉ R.keys ∧ dx ∉ R.keys := by
    simp only [keys_cons, List.nodup_cons, List.mem_cons, not_or] at hnd
    exact ⟨hnd.1.1, hnd.1.2, hnd.2.1⟩
  repeat walk_at "ex"
  intro nd hnd'
  simp only [keys_cons, List.mem_cons, not_or] at hnd'
  repeat walk_at "ex"
  refine' sa_dict (T := T) (by kernel_rfl) (up1 List.mem_cons_self) (up2 List.mem_cons_self) ?hz ?_
  case hz => exact Nat.le_of_ble_eq_true rfl
  rw [put_cons, put_cons, if_neg hnd'.2.1, if_neg n1, put_head n3]
  repeat walk_at "ex"
  refine' sa_dict (T := T) (by kernel_rfl) (up1 List.mem_cons_self) (up2 List.mem_cons_self) ?hz ?_
  case hz => exact Nat.le_of_ble_eq_true rfl
  rw [put_cons, put_cons, if_neg hnd'.2.1, if_neg n1, put_head n3]
  repeat walk_at "ex"
  refine' sa_dict (T := T) (by kernel_rfl) (up1 List.mem_cons_self) (up2 List.mem_cons_self) ?hz ?_
  case hz => exact Nat.le_of_ble_eq_true rfl
  rw [put_cons, put_cons, if_neg hnd'.2.1, if_neg n1, put_head n3]
  repeat walk_at "ex"
  refine' sa_dict (T := T) (by kernel_rfl) (up1 List.mem_cons_self) (up2 List.mem_cons_self) ?hz ?_
  case hz => exact Nat.le_of_ble_eq_true rfl
  rw [put_cons, put_cons, if_neg hnd'.2.1, if_neg n1, put_head n3]
  repeat walk_at "ex"
  exact ⟨_, Wk.swap.trans (Wk.keep Wk.swap), h nd⟩
end

section
variable {C : Cfg} {A : Around} {fx : Fx} {m : Lo} {H R : AH} {X : Value → Lo → AH → Prop} {Q : Value → Lo → AH → Prop} {n : Nat} {σ : SS}
theorem ready_ok {ra : Addr} {rs : List Int} {b : Nat} (T : Top C (K04 C.w.params)) (hR : Room A (n + 4)) (ok : σ.Ok) (hrdy : σ.rdy = some (ra, rs)) (hz : rs.length ≤ 10000) (hin : ∀ x ∈ rs, x ∈ σ.g.map (·.1))
    (h : ∀ σ' t, σ'.Ok → σ'.sa = σ.sa → σ'.rdy = some (ra, []) → σ'.po = σ.po + rs.length → σ'.nf = σ.nf → σ'.g = rs.foldl (gSet (-1)) σ.g → Q (.ref t) m (SCX σ' ++ (t, .tup (iv rs)) :: R)) :
    CALLC C A fx (.ref 99) [.ref σ.sa] m (SCX σ ++ R) Q X := by
  refine callc_wkp ?_
  refine' call1 hR (fnAt (T := T) ?ho ?hcode ?hco ?hgen ?hk) "self" ?b1 ?b2 ?body
  walk_at "fn"
  intro A' fx' hR' Z
  have hrv : σ.rv = .ref ra := by unfold SS.rv; rw [hrdy]
  have l1 : σ.fs.lookup ("_ready_nodes" : PySem.Str) = some (Value.ref ra) := by rw [ok.fs]; show some σ.rv = _; rw [hrv]
  have l2 : σ.fs.lookup ("_node2info" : PySem.Str) = some (Value.ref σ.nd) := ok.fs _
  have hlen : (iv rs).length ≤ 1000000 := by rw [List.length_map]; walk_at "le"
  repeat walk_at "ex"
  refine ga_dict (T := T) (by kernel_rfl) sc_sa sc_sd l1 rfl ?_
  repeat walk_at "ex"
  refine ga_dict (T := T) (by kernel_rfl) sc_sa sc_sd l1 rfl ?_
  repeat walk_at "ex"
  refine call_tuple (sc_ra hrdy) hlen fun t ht => ?_
  repeat walk_at "ex"
  refine ga_dict (T := T) (by kernel_rfl) (up1 sc_sa) (up1 sc_sd) l2 rfl ?_
  repeat walk_at "ex"
  refine ex_wk WkL.refl (Wk.perm (List.perm_middle (l₁ := SCX σ) (l₂ := R)).symm) ?_
  walk_at "for"
  repeat walk_at "ex"
  refine ⟨iv rs, _, itr_tup hR'.hand (List.mem_append_right _ List.mem_cons_self), fun i m' H' => ∃ σ', σ'.Ok ∧ σ'.sa = σ.sa ∧ σ'.sd = σ.sd ∧ σ'.nd = σ.nd ∧ σ'.rdy = some (ra, rs) ∧ σ'.po = σ.po ∧ σ'.nf = σ.nf ∧ σ'.g = (rs.take i).foldl (gSet (-1)) σ.g ∧
    WkL m' [("n2i", .ref σ.nd), ("result", .ref t), ("self", .ref σ.sa)] ∧ Wk H' (SCX σ' ++ (t, .tup (iv rs)) :: R), ⟨σ, ok, rfl, rfl, rfl, hrdy, rfl, rfl, rfl, ?_, Wk.refl⟩, ?_, ?_, ?_⟩
  · walk_at "wkl"
  · rintro i m' H' ⟨σ', _, _, _, _, _, _, _, _, _, hW⟩
    exact hW.1 _ (List.mem_append_right _ List.mem_cons_self)
  · rintro i v m' H' hv ⟨σ', ok', hsa, hsd, hnd, hrd, hpo, hnf, hg', hm, hW⟩
    obtain ⟨x, hx, rfl⟩ := iv_get hv
    rw [← hnd] at hm
    refine asg_wk hm hW ?_
    repeat walk_at "ex"
    have hxn : x ∈ σ'.recs.map (·.node) := by
      rw [← g_nodes, hg', set_nodes]
      exact hin x (List.mem_of_getElem? hx)
    obtain ⟨r, hr, rfl⟩ := rec_of hxn
    refine sub_dict sc_nd (dval_rec ok' hr) ?_
    repeat walk_at "ex"
    refine sa_slot (T := T) (p := 42) (i := 1) (by kernel_rfl) (by decide) (rec_ia hr) (rec_id hr) ?_
    refine seq_next (exs_np (fun _ => -1) ok' hr rfl ?_)
    repeat walk_at "ex"
    refine ⟨{ σ' with recs := updR' σ'.recs r.node fun q => { q with np := (fun _ => -1) q.np } }, Ok_upd ok' fun _ => rfl, hsa, hsd, hnd, hrd, hpo, hnf, ?_, ?_, Wk.refl⟩
    · rw [fold_take _ _ hx, ← hg']
      exact g_np (f := fun _ => -1)
    · rw [← hnd]
      walk_at "wkl"
  · rintro m' H' ⟨σ', ok', hsa, hsd, hnd, hrd, hpo, hnf, hg', hm, hW⟩
    rw [List.length_map, List.take_length] at hg'
    rw [← hsa] at hm
    have hrv' : σ'.rv = .ref ra := by unfold SS.rv; rw [hrd]
    have l1' : σ'.fs.lookup ("_ready_nodes" : PySem.Str) = some (Value.ref ra) := by rw [ok'.fs]; show some σ'.rv = _; rw [hrv']
    refine exs_wk hm hW ?_
    repeat walk_at "ex"
    refine ga_dict (T := T) (by kernel_rfl) sc_sa sc_sd l1' rfl ?_
    repeat walk_at "ex"
    refine gm_list (sc_ra hrd) PySem.F.slot_list_clear PySem.F.type_list_clear ?_
    repeat walk_at "ex"
    refine call_clear (sc_ra hrd) hlen ?_
    refine seq_next (exs_ra (l' := []) hrd rfl ?_)
    repeat walk_at "ex"
    refine ga_dict (T := T) (by kernel_rfl) sc_sa sc_sd (v := vI σ'.po) (ok'.fs _) rfl ?_
    repeat walk_at "ex"
    refine call_len_t (List.mem_append_right _ List.mem_cons_self) hlen ?_
    repeat walk_at "ex"
    refine sa_dict (T := T) (by kernel_rfl) sc_sa sc_sd (Nat.le_trans ok'.len (by decide)) ?_
    refine seq_next (exs_fs ?_)
    repeat walk_at "ex"
    refine ⟨_, Wk.refl, ?_⟩
    exact h { σ' with rdy := some (ra, []), fs := nsPut σ'.fs "_npassedout" (vI (σ'.po + ((iv rs).length : Int))), po := σ'.po + ((iv rs).length : Int) } t (Ok_po (Ok_rdy ok' hrd)) hsa rfl (by show σ'.po + ((iv rs).length : Int) = _; rw [hpo, List.length_map]) hnf hg'
end

section
variable {C : Cfg} {A : Around} {fx : Fx} {m : Lo} {H R : AH} {X : Value → Lo → AH → Prop} {Q : Value → Lo → AH → Prop} {n : Nat} {σ : SS}
end

section
variable {C : Cfg} {A : Around} {fx : Fx} {m : Lo} {H R : AH} {X : Value → Lo → AH → Prop} {Q : Value → Lo → AH → Prop} {n : Nat} {σ : SS}
theorem gDec_eq (st : G × List Int) (s : Int) : gDec st s = (gUpd st.1 s fun x => (x.1 - 1, x.2), if (gAt (gUpd st.1 s fun x => (x.1 - 1, x.2)) s).map (·.1) = some 0 then st.2 ++ [s] else st.2) := rfl
theorem la_upd {recs : List NI} {k : Int} {f : Int → Int} {la : Addr} {su : List Int} (h : ∃ r ∈ recs, r.la = la ∧ r.su = su) : ∃ r ∈ updR' recs k (fun q => { q with np := f q.np }), r.la = la ∧ r.su = su := by
  obtain ⟨r, hr, h1, h2⟩ := h
  refine ⟨_, List.mem_map.mpr ⟨r, hr, rfl⟩, ?_, ?_⟩ <;> (split <;> assumption)
theorem done_ok {ra : Addr} {rs xs : List Int} {b : Nat} (T : Top C (K04 C.w.params)) (hR : Room A (n + 4)) (ok : σ.Ok) (hrdy : σ.rdy = some (ra, rs)) (hb : Bd σ.g b) (hz : rs.length + xs.length * b ≤ 100000) (hz2 : xs.length ≤ 10000)
    (hout : ∀ i x, xs[i]? = some x → ∃ su, gAt (gDone (σ.g, rs) (xs.take i)).1 x = some (-1, su)) (hcl : ∀ k x, gAt σ.g k = some x → ∀ s ∈ x.2, s ∈ σ.g.map (·.1))
    (h : ∀ σ', σ'.Ok → σ'.sa = σ.sa → σ'.rdy = some (ra, (gDone (σ.g, rs) xs).2) → σ'.po = σ.po → σ'.nf = σ.nf + xs.length → σ'.g = (gDone (σ.g, rs) xs).1 → Q .none m (SCX σ' ++ R)) :
    CALLC C A fx (.ref 120) (.ref σ.sa :: iv xs) m (SCX σ ++ R) Q X := by
  refine callc_wkp ?_
  refine' callV1 hR (fnAt (T := T) ?ho ?hcode ?hco ?hgen ?hk) "self" "nodes" ?b1 ?b2 ?hz ?body
  case ho => k_is
  case hcode => k_is
  case hco => rfl
  case hgen => rfl
  case hk => rfl
  case b1 => intro a r; cases r <;> rfl
  case b2 => rfl
  case hz => rw [List.length_map]; walk_at "le"
  intro A' fx' t ht hR' hh Z
  have hrv : σ.rv = .ref ra := by unfold SS.rv; rw [hrdy]
  have l1 : σ.fs.lookup ("_ready_nodes" : PySem.Str) = some (Value.ref ra) := by rw [ok.fs]; show some σ.rv = _; rw [hrv]
  have l2 : σ.fs.lookup ("_node2info" : PySem.Str) = some (Value.ref σ.nd) := ok.fs _
  refine exs_wk WkL.refl (Wk.perm (List.perm_middle (l₁ := SCX σ) (l₂ := R)).symm) ?_
  repeat walk_at "ex"
  refine ga_dict (T := T) (by kernel_rfl) sc_sa sc_sd l1 rfl ?_
  repeat walk_at "ex"
  refine ga_dict (T := T) (by kernel_rfl) sc_sa sc_sd l2 rfl ?_
  repeat walk_at "ex"
  walk_at "for"
  repeat walk_at "ex"
  refine ⟨iv xs, _, itr_tup hR'.hand (List.mem_append_right _ List.mem_cons_self), fun i m' H' => ∃ σ', σ'.Ok ∧ σ'.sa = σ.sa ∧ σ'.nd = σ.nd ∧ σ'.rdy = some (ra, (gDone (σ.g, rs) (xs.take i)).2) ∧ σ'.po = σ.po ∧ σ'.nf = σ.nf + i ∧ σ'.g = (gDone (σ.g, rs) (xs.take i)).1 ∧
    WkL m' [("n2i", .ref σ.nd), ("self", .ref σ.sa)] ∧ Wk H' (SCX σ' ++ (t, .tup (iv xs)) :: R), ⟨σ, ok, rfl, rfl, hrdy, rfl, (by simp), rfl, ?_, Wk.refl⟩, ?_, ?_, ?_⟩
  · walk_at "wkl"
  · rintro i m' H' ⟨σ', _, _, _, _, _, _, _, _, hW⟩
    exact hW.1 _ (List.mem_append_right _ List.mem_cons_self)
  · rintro i v m' H' hv ⟨σ', ok', hsa, hnd, hrd, hpo, hnf, hg', hm, hW⟩
    obtain ⟨x, hx, rfl⟩ := iv_get hv
    rw [← hnd, ← hsa] at hm
    refine asg_wk hm hW ?_
    obtain ⟨su, hat⟩ := hout i x hx
    rw [← hg'] at hat
    have hxn : x ∈ σ'.recs.map (·.node) := by
      rw [← g_nodes]
      exact List.mem_map_of_mem (f := (·.1)) (mem_gAt hat)
    obtain ⟨r, hr, rfl⟩ := rec_of hxn
    rw [rec_gAt ok' hr] at hat
    obtain ⟨hnp, rfl⟩ := Prod.mk.inj (Option.some.inj hat)
    repeat walk_at "ex"
    refine gm_dict sc_nd PySem.F.slot_dict_get PySem.F.type_dict_get ?_
    repeat walk_at "ex"
    refine call_get_some sc_nd (dval_rec ok' hr) ?_
    repeat walk_at "ex"
    refine ga_slot (T := T) (p := 42) (i := 1) (by kernel_rfl) (rec_ia hr) (rec_id hr) rfl rfl ?_
    repeat walk_at "ex"
    refine if_dec (fun hb => absurd hb (by rw [hnp]; decide)) (fun _ => ?_)
    repeat walk_at "ex"
    refine sa_slot (T := T) (p := 42) (i := 1) (by kernel_rfl) (by decide) (rec_ia hr) (rec_id hr) ?_
    refine seq_next (exs_np (fun _ => -2) ok' hr rfl ?_)
    obtain ⟨σ₁, hσ₁⟩ : ∃ σ₁ : SS, σ₁ = { σ' with recs := updR' σ'.recs r.node fun q => { q with np := (fun _ => (-2 : Int)) q.np } } := ⟨_, rfl⟩
    obtain ⟨r₁, hr₁, e1, e2, e3, e4⟩ : ∃ r₁ ∈ σ₁.recs, r₁.ia = r.ia ∧ r₁.id = r.id ∧ r₁.la = r.la ∧ r₁.su = r.su := ⟨{ r with np := -2 }, by rw [hσ₁]; exact upd_mem (f := fun q : NI => { q with np := (fun _ => (-2 : Int)) q.np }) hr rfl, rfl, rfl, rfl, rfl⟩
    have ok₁ : σ₁.Ok := hσ₁ ▸ Ok_upd ok' fun _ => rfl
    have hg₁ : σ₁.g = gSet (-2) σ'.g r.node := hσ₁ ▸ g_np (f := fun _ => -2)
    have q1 : σ₁.sa = σ'.sa ∧ σ₁.nd = σ'.nd ∧ σ₁.rdy = σ'.rdy ∧ σ₁.po = σ'.po ∧ σ₁.nf = σ'.nf := by rw [hσ₁]; exact ⟨rfl, rfl, rfl, rfl, rfl⟩
    rw [← hσ₁, ← e1]
    clear hσ₁
    obtain ⟨q1, q2, q3, q4, q5⟩ := q1
    have hdone : gDone (σ.g, rs) (xs.take (i + 1)) = r.su.foldl gDec (σ₁.g, (gDone (σ.g, rs) (xs.take i)).2) := by
      unfold gDone
      rw [fold_take _ _ hx]
      show gDone1 (gDone (σ.g, rs) (xs.take i)) r.node = _
      unfold gDone1
      rw [← hg', rec_gAt ok' hr, hg₁]
      rfl
    have hsn : ∀ s ∈ r.su, s ∈ σ.g.map (·.1) := by
      have z := done_su (j := r.node) (xs := xs.take i) (st := (σ.g, rs))
      rw [show (xs.take i).foldl gDone1 (σ.g, rs) = gDone (σ.g, rs) (xs.take i) from rfl, ← hg', rec_gAt ok' hr] at z
      cases w : gAt σ.g r.node with
      | none => rw [w] at z; cases z
      | some y =>
        rw [w] at z
        have : r.su = y.2 := Option.some.inj z
        rw [this]
        exact hcl _ _ w
    have hn₁ : σ₁.g.map (·.1) = σ.g.map (·.1) := by
      rw [hg₁, hg']
      exact (upd_nodes (g := (gDone (σ.g, rs) (xs.take i)).1) (k := r.node) (f := fun y => (-2, y.2))).trans (done_nodes (xs := xs.take i) (st := (σ.g, rs)))
    have hLl : (gDone (σ.g, rs) (xs.take i)).2.length + r.su.length ≤ 200000 := by
      have hlt := (List.getElem?_eq_some_iff.mp hx).1
      have w1 := done_len (b := b) (σ.g, rs) (fun j => by
        cases w : gAt σ.g j with
        | none => exact Nat.zero_le _
        | some y => exact hb.su _ (mem_gAt w)) (xs.take i)
      rw [List.length_take, Nat.min_eq_left (Nat.le_of_lt hlt)] at w1
      have w2 : r.su.length ≤ b := by
        have z := done_su (j := r.node) (xs := xs.take i) (st := (σ.g, rs))
        rw [show (xs.take i).foldl gDone1 (σ.g, rs) = gDone (σ.g, rs) (xs.take i) from rfl, ← hg', rec_gAt ok' hr] at z
        cases w : gAt σ.g r.node with
        | none => rw [w] at z; cases z
        | some y =>
          rw [w] at z
          rw [show r.su = y.2 from Option.some.inj z]
          exact hb.su _ (mem_gAt w)
      have w3 : (i + 1) * b ≤ xs.length * b := Nat.mul_le_mul_right _ hlt
      have w4 : (gDone (σ.g, rs) (xs.take i)).2.length ≤ rs.length + i * b := w1
      rw [Nat.succ_mul] at w3
      omega
    generalize hL : (gDone (σ.g, rs) (xs.take i)).2 = L at *
    repeat walk_at "ex"
    walk_at "for"
    repeat walk_at "ex"
    refine ga_slot (T := T) (p := 43) (i := 2) (by kernel_rfl) (rec_ia hr₁) (rec_id hr₁) rfl rfl ?_
    refine ⟨iv r₁.su, _, itr_list hR'.hand (rec_la hr₁), fun j m' H' => ∃ σ₂, σ₂.Ok ∧ σ₂.sa = σ'.sa ∧ σ₂.nd = σ'.nd ∧ σ₂.rdy = some (ra, ((r.su.take j).foldl gDec (σ₁.g, L)).2) ∧ σ₂.po = σ'.po ∧ σ₂.nf = σ'.nf ∧ σ₂.g = ((r.su.take j).foldl gDec (σ₁.g, L)).1 ∧
      (∃ r₂ ∈ σ₂.recs, r₂.la = r₁.la ∧ r₂.su = r₁.su) ∧ WkL m' [("n2i", .ref σ'.nd), ("self", .ref σ'.sa)] ∧ Wk H' (SCX σ₂ ++ (t, .tup (iv xs)) :: R), ⟨σ₁, ok₁, q1, q2, q3.trans hrd, q4, q5, rfl, ⟨r₁, hr₁, rfl, rfl⟩, ?_, Wk.refl⟩, ?_, ?_, ?_⟩
    · walk_at "wkl"
    · rintro j m' H' ⟨σ₂, _, _, _, _, _, _, _, ⟨r₂, hr₂, z1, z2⟩, _, hW⟩
      rw [← z1, ← z2]
      exact hW.1 _ (rec_la hr₂)
    · rintro j w m' H' hw ⟨σ₂, ok₂, hsa₂, hnd₂, hrd₂, hpo₂, hnf₂, hg₂, hla₂, hm, hW⟩
      obtain ⟨s, hs, rfl⟩ := iv_get hw
      rw [e4] at hs
      rw [← hnd₂, ← hsa₂] at hm
      refine asg_wk hm hW ?_
      repeat walk_at "ex"
      have hsr : s ∈ σ₂.recs.map (·.node) := by
        rw [← g_nodes, hg₂]
        exact (decs_nodes (su := r.su.take j) (st := (σ₁.g, L))).symm ▸ (hn₁.symm ▸ hsn s (List.mem_of_getElem? hs))
      obtain ⟨p, hp, rfl⟩ := rec_of hsr
      refine sub_dict sc_nd (dval_rec ok₂ hp) ?_
      repeat walk_at "ex"
      refine ga_slot (T := T) (p := 42) (i := 1) (by kernel_rfl) (rec_ia hp) (rec_id hp) rfl rfl ?_
      repeat walk_at "ex"
      refine sa_slot (T := T) (p := 42) (i := 1) (by kernel_rfl) (by decide) (rec_ia hp) (rec_id hp) ?_
      refine seq_next (exs_np (fun v => v - 1) ok₂ hp rfl ?_)
      obtain ⟨σ₃, hσ₃⟩ : ∃ σ₃ : SS, σ₃ = { σ₂ with recs := updR' σ₂.recs p.node fun q => { q with np := (fun v => v - 1) q.np } } := ⟨_, rfl⟩
      obtain ⟨p₃, hp₃, f1, f2, f3⟩ : ∃ p₃ ∈ σ₃.recs, p₃.ia = p.ia ∧ p₃.np = p.np - 1 ∧ p₃.node = p.node := ⟨{ p with np := p.np - 1 }, by rw [hσ₃]; exact upd_mem (f := fun q : NI => { q with np := (fun v => v - 1) q.np }) hp rfl, rfl, rfl, rfl⟩
      have ok₃ : σ₃.Ok := hσ₃ ▸ Ok_upd ok₂ fun _ => rfl
      have hg₃ : σ₃.g = gUpd σ₂.g p.node fun x => (x.1 - 1, x.2) := hσ₃ ▸ g_np (f := fun v => v - 1)
      have hla₃ : ∃ r₂ ∈ σ₃.recs, r₂.la = r₁.la ∧ r₂.su = r₁.su := by rw [hσ₃]; exact la_upd (k := p.node) (f := fun v => v - 1) hla₂
      have w1 : σ₃.sa = σ₂.sa ∧ σ₃.nd = σ₂.nd ∧ σ₃.rdy = σ₂.rdy ∧ σ₃.po = σ₂.po ∧ σ₃.nf = σ₂.nf := by rw [hσ₃]; exact ⟨rfl, rfl, rfl, rfl, rfl⟩
      rw [← hσ₃, ← f1]
      clear hσ₃
      obtain ⟨w1, w2, w3, w4, w5⟩ := w1
      have hat₃ : (gAt σ₃.g p.node).map (·.1) = some (p.np - 1) := by rw [← f3, rec_gAt ok₃ hp₃, f2]; rfl
      have hdec : (r.su.take (j + 1)).foldl gDec (σ₁.g, L) = (σ₃.g, if p.np - 1 = 0 then ((r.su.take j).foldl gDec (σ₁.g, L)).2 ++ [p.node] else ((r.su.take j).foldl gDec (σ₁.g, L)).2) := by
        rw [fold_take _ _ hs, gDec_eq, ← hg₂, ← hg₃, hat₃]
        simp only [Option.some.injEq]
      repeat walk_at "ex"
      refine ga_slot (T := T) (p := 42) (i := 1) (by kernel_rfl) (rec_ia hp₃) (rec_id hp₃) rfl rfl ?_
      repeat walk_at "ex"
      have hrd₃ : σ₃.rdy = some (ra, ((r.su.take j).foldl gDec (σ₁.g, L)).2) := w3.trans hrd₂
      have hrv₃ : σ₃.rv = .ref ra := by unfold SS.rv; rw [hrd₃]
      have l1₃ : σ₃.fs.lookup ("_ready_nodes" : PySem.Str) = some (Value.ref ra) := by rw [ok₃.fs]; show some σ₃.rv = _; rw [hrv₃]
      refine if_dec (fun hb0 => ?_) (fun hb0 => ?_)
      · have h0 : p.np - 1 = 0 := by rw [f2] at hb0; simpa using hb0
        rw [if_pos h0] at hdec
        repeat walk_at "ex"
        rw [← w1]
        refine ga_dict (T := T) (by kernel_rfl) sc_sa sc_sd l1₃ rfl ?_
        repeat walk_at "ex"
        refine gm_list (sc_ra hrd₃) PySem.F.slot_list_append PySem.F.type_list_append ?_
        repeat walk_at "ex"
        have hjl := (List.getElem?_eq_some_iff.mp hs).1
        have hdl := decs_len (su := r.su.take j) (st := (σ₁.g, L))
        rw [List.length_take] at hdl
        refine call_append (sc_ra hrd₃) (by rw [List.length_map]; have hdl' : (List.foldl gDec (σ₁.g, L) (List.take j r.su)).2.length ≤ L.length + min j r.su.length := hdl; omega) ?_
        refine seq_next (exs_ra (l' := ((r.su.take j).foldl gDec (σ₁.g, L)).2 ++ [p.node]) hrd₃ (by rw [iv_append]; rfl) ?_)
        repeat walk_at "ex"
        exact ⟨_, Ok_rdy ok₃ hrd₃, w1.trans hsa₂, w2.trans hnd₂, by rw [hdec], w4.trans hpo₂, w5.trans hnf₂, by rw [hdec]; rfl, hla₃, by rw [← hnd₂, ← hsa₂, ← w1]; walk_at "wkl", Wk.refl⟩
      · have h0 : ¬ p.np - 1 = 0 := by rw [f2] at hb0; simpa using hb0
        rw [if_neg h0] at hdec
        repeat walk_at "ex"
        exact ⟨σ₃, ok₃, w1.trans hsa₂, w2.trans hnd₂, by rw [hdec]; exact hrd₃, w4.trans hpo₂, w5.trans hnf₂, by rw [hdec], hla₃, by rw [← hnd₂, ← hsa₂]; walk_at "wkl", Wk.refl⟩
    · rintro m' H' ⟨σ₂, ok₂, hsa₂, hnd₂, hrd₂, hpo₂, hnf₂, hg₂, hla₂, hm, hW⟩
      rw [List.length_map, e4, List.take_length] at hrd₂ hg₂
      rw [← hsa₂] at hm
      refine exs_wk hm hW ?_
      repeat walk_at "ex"
      refine ga_dict (T := T) (by kernel_rfl) sc_sa sc_sd (v := vI σ₂.nf) (ok₂.fs _) rfl ?_
      repeat walk_at "ex"
      refine sa_dict (T := T) (by kernel_rfl) sc_sa sc_sd (Nat.le_trans ok₂.len (by decide)) ?_
      refine seq_next (exs_fs ?_)
      repeat walk_at "ex"
      refine ⟨{ σ₂ with fs := nsPut σ₂.fs "_nfinished" (vI (σ₂.nf + 1)), nf := σ₂.nf + 1 }, Ok_nf ok₂, hsa₂.trans hsa, hnd₂.trans hnd, ?_, hpo₂.trans hpo, ?_, ?_, ?_, Wk.refl⟩
      · rw [hdone]; exact hrd₂
      · show σ₂.nf + 1 = _
        rw [hnf₂, hnf]; push_cast; omega
      · rw [hdone]; exact hg₂
      · rw [← hnd, ← hsa, ← hsa₂]
        walk_at "wkl"
  · rintro m' H' ⟨σ', ok', hsa, hnd, hrd, hpo, hnf, hg', hm, hW⟩
    rw [List.length_map] at hnf hrd hg'
    rw [List.take_length] at hrd hg'
    repeat walk_at "ex"
    exact ⟨_, hW.trans (Wk.sub (List.Sublist.append_left (List.sublist_cons_self _ _) _)), h σ' ok' hsa hrd hpo hnf hg'⟩
end

section
variable {C : Cfg} {A : Around} {fx : Fx} {m : Lo} {H R : AH} {X : Value → Lo → AH → Prop} {Q : Value → Lo → AH → Prop} {n : Nat} {σ : SS}
noncomputable def FrOk (σ : SS) (fr : List FR) : Prop := ∀ f ∈ fr, ∃ r ∈ σ.recs, r.node = f.node ∧ r.la = f.la
theorem gSuc_rec {r : NI} (ok : σ.Ok) (hr : r ∈ σ.recs) : gSuc σ.g r.node = r.su := by unfold gSuc; rw [rec_gAt ok hr]; rfl
theorem cycle_ok (T : Top C (K04 C.w.params)) (hR : Room A (n + 4)) (ok : σ.Ok) (hgl : σ.g.length ≤ 1000) (hcl : ∀ k x, gAt σ.g k = some x → ∀ s ∈ x.2, s ∈ σ.g.map (·.1))
    (h1 : ∀ F, Fin' σ.g F → Q .none m (SCX σ ++ R)) (h2 : ∀ v t, t ∉ AH.keys (SCX σ ++ R) → Ring σ.g v → v.length ≤ 2000 → Q (.ref t) m ((t, .list (iv v)) :: (SCX σ ++ R))) :
    CALLC C A fx (.ref 127) [.ref σ.sa] m (SCX σ ++ R) Q X := by
  refine callc_wkp ?_
  refine' call1x hR (fnAt (T := T) ?ho ?hcode ?hco ?hgen ?hk) "self" ?b1 ?b2 ?body
  walk_at "fn"
  intro A' fx' hR' hh Z
  have l2 : σ.fs.lookup ("_node2info" : PySem.Str) = some (Value.ref σ.nd) := ok.fs _
  repeat walk_at "ex"
  refine ga_dict (T := T) (by kernel_rfl) sc_sa sc_sd l2 rfl ?_
  repeat walk_at "ex"
  refine ⟨by decide, fun sk hsk => ?_⟩
  repeat walk_at "ex"
  refine ⟨by decide, fun ik hik => ?_⟩
  repeat walk_at "ex"
  refine call_set0 fun se hse => ?_
  repeat walk_at "ex"
  intro d hd
  repeat walk_at "ex"
  refine ex_wk (H' := DC ⟨sk, ik, se, d⟩ 0 [] [] (SCX σ ++ R)) WkL.refl (Wk.perm ?hperm) ?_
  case hperm => exact (List.reverse_perm [(sk, _), (ik, _), (se, _), (d, _)]).append_right _
  have hnil : SR σ.g 0 [] [] [] none := ⟨DFS.init, rfl, by rw [un_nil]; simp, by simp⟩
  have hdrop : ∀ {ep seen}, Wk (DC ⟨sk, ik, se, d⟩ ep seen [] (SCX σ ++ R)) (SCX σ ++ R) := Wk.cons (Wk.cons (Wk.cons (Wk.cons Wk.refl)))
  have hdrop2 : ∀ {ep seen fr}, Wk (DC ⟨sk, ik, se, d⟩ ep seen fr (SCX σ ++ R)) (SCX σ ++ R) := Wk.cons (Wk.cons (Wk.cons (Wk.cons (Wk.sub (List.sublist_append_right _ _)))))
  generalize hDA : (⟨sk, ik, se, d⟩ : DA) = a at *
  obtain ⟨e1, e2, e3, e4⟩ : sk = a.sk ∧ ik = a.ik ∧ se = a.se ∧ d = a.d := by rw [← hDA]; exact ⟨rfl, rfl, rfl, rfl⟩
  subst e1 e2 e3 e4
  walk_at "for"
  repeat walk_at "ex"
  refine ⟨_, _, itr_keys hR'.hand (dc_R sc_nd), fun i m' H' => ∃ seen fin ep, SR σ.g i seen fin [] none ∧
    WkL m' [("node2stacki", .ref a.d), ("seen", .ref a.se), ("itstack", .ref a.ik), ("stack", .ref a.sk), ("n2i", .ref σ.nd)] ∧ Wk H' (DC a ep seen [] (SCX σ ++ R)), ⟨[], [], 0, hnil, ?_, Wk.refl⟩, ?_, ?_, ?_⟩
  · walk_at "wkl"
  · rintro i m' H' ⟨seen, fin, ep, _, _, hW⟩
    exact hW.1 _ (dc_R sc_nd)
  · rintro i v m' H' hv ⟨seen, fin, ep, hS, hm, hW⟩
    rw [List.getElem?_map] at hv
    obtain ⟨kv, hkv, rfl⟩ := Option.map_eq_some_iff.mp hv
    have hk0 : (σ.g.map (·.1))[i]? = some kv.1 := by
      rw [show σ.g.map (·.1) = σ.kvs.map (·.1) from by rw [kvs_nodes, g_nodes], List.getElem?_map, hkv]; rfl
    generalize kv.1 = k0 at *
    refine asg_wk hm hW ?_
    repeat walk_at "ex"
    refine co_in_set dc_se ?_
    repeat walk_at "ex"
    refine if_dec (fun hb0 => ?_) (fun hb0 => ?_)
    · repeat walk_at "ex"
      exact ⟨seen, fin, ep, hS.next hk0 (of_decide_eq_true hb0), WkL.cons (by walk_at "wkl"), Wk.refl⟩
    · repeat walk_at "ex"
      refine ex_while (fun N m' H' => ∃ seen fin fr ep k, Msr σ.g seen fr ≤ N ∧ SR σ.g i seen fin fr (some k) ∧ k ∈ σ.g.map (·.1) ∧ (k0 ∈ seen ∨ k = k0) ∧ FrOk σ fr ∧
        WkL m' [("node", vI k), ("node2stacki", .ref a.d), ("seen", .ref a.se), ("itstack", .ref a.ik), ("stack", .ref a.sk), ("n2i", .ref σ.nd)] ∧ Wk H' (DC a ep seen fr (SCX σ ++ R)))
        (Msr σ.g seen []) ⟨seen, fin, [], ep, k0, Nat.le_refl _, hS.enter, List.mem_of_getElem? hk0, .inr rfl, (fun f h => by cases h), WkL.refl, Wk.refl⟩ ?_
      clear hW hm hS hb0
      rintro N m' H' ⟨seen, fin, fr, ep, k, hN, hS, hkg, hks, hfr, hm, hW⟩
      refine it_wk hm hW (aw_nodup fun hnd0 => it_val (ev_bool (tr_bool (if_yes ?_))) rfl)
      refine exs_mid (fun m' H' => ∃ seen fin fr ep, Msr σ.g seen fr ≤ N ∧ SR σ.g i seen fin fr none ∧ k0 ∈ seen ∧ FrOk σ fr ∧
        WkL m' [("node2stacki", .ref a.d), ("seen", .ref a.se), ("itstack", .ref a.ik), ("stack", .ref a.sk), ("n2i", .ref σ.nd)] ∧ Wk H' (DC a ep seen fr (SCX σ ++ R))) ?_ ?_
      · repeat walk_at "ex"
        refine co_in_set dc_se ?_
        repeat walk_at "ex"
        refine if_dec (fun hb1 => ?_) (fun hb1 => ?_)
        · have hk1 := of_decide_eq_true hb1
          repeat walk_at "ex"
          refine co_in_dict dc_d ?_
          repeat walk_at "ex"
          refine if_dec (fun hb2 => ?_) (fun hb2 => ?_)
          · obtain ⟨fa, f, fb, rfl, rfl⟩ := fr_split (place_mem.mp (of_decide_eq_true hb2))
            repeat walk_at "ex"
            refine sub_dict dc_d (place_dval hS.dfs.stN) ?_
            repeat walk_at "ex"
            refine ⟨a.sk, _, some (fb.length : Int), none, none, rfl, dc_sk, rfl, rfl, rfl, by decide, ?_, fun t ht => ?_⟩
            · have := hS.small.1; rw [List.length_map, List.length_reverse, List.length_map]; walk_at "le"
            rw [pick_from]
            repeat walk_at "ex"
            refine ⟨Nat.le_of_ble_eq_true rfl, fun u hu => ?_⟩
            refine bo_cat (up1 List.mem_cons_self) List.mem_cons_self ?_ fun v hv => ?_
            · have := hS.small.1; rw [List.length_drop, List.length_map, List.length_reverse, List.length_map]; simp only [List.length_singleton]; omega
            repeat walk_at "ex"
            have he : List.drop fb.length (iv (List.map (fun x => x.node) (fa ++ f :: fb)).reverse) ++ [vI f.node] = iv (f.node :: (fa.map (·.node)).reverse ++ [f.node]) := by
              show List.drop _ (List.map vI _) ++ _ = _
              rw [← List.map_drop, ring_drop, iv_append]; rfl
            rw [he]
            refine ⟨_, Wk.keep (Wk.cons (Wk.cons hdrop2)), h2 _ v ?_ (Tak.ring hS.dfs.tak) ?_⟩
            rotate_left
            · have := hS.small.1; simp only [List.length_append, List.length_cons, List.length_reverse, List.length_map, List.length_nil] at this ⊢; walk_at "le"
            intro hm'
            refine hv (List.mem_cons_of_mem _ (List.mem_cons_of_mem _ ?_))
            obtain ⟨q, hq, hqe⟩ := List.mem_map.mp hm'
            rw [← hqe]
            exact mem_keys (hdrop2.1 _ hq)
          · repeat walk_at "ex"
            refine ⟨seen, fin, fr, ep, hN, hS.known hk1 (fun hm' => absurd (decide_eq_true (place_mem.mpr hm')) (by rw [hb2]; decide)), hks.elim id fun e => e ▸ hk1, hfr, WkL.cons WkL.refl, Wk.refl⟩
        · have hk1 : k ∉ seen := of_decide_eq_false hb1
          have hkn : k ∉ fr.map (·.node) := fun hm' => hk1 ((hS.dfs.mem k).mpr (.inr hm'))
          obtain ⟨q, hq, rfl⟩ := rec_of (show k ∈ σ.recs.map (·.node) by rw [← g_nodes]; exact hkg)
          have hn1 : (AH.keys (PC a ep seen (iv (fr.map (·.node)).reverse) ((fr.map fun f => Value.ref f.w).reverse) (place fr) (FC fr ++ (SCX σ ++ R)))).Nodup := hnd0
          have hsm := hS.small
          rw [dc_pc]
          repeat walk_at "ex"
          refine gm_set pc_mse PySem.F.slot_set_add PySem.F.type_set_add ?_
          repeat walk_at "ex"
          refine call_setadd pc_mse (by walk_at "le") ?_
          rw [pc_se hn1]
          repeat walk_at "ex"
          refine gm_list pc_mik PySem.F.slot_list_append PySem.F.type_list_append ?_
          repeat walk_at "ex"
          refine sub_dict (pc_R (List.mem_append_right _ sc_nd)) (dval_rec ok hq) ?_
          repeat walk_at "ex"
          refine ga_slot (T := T) (p := 43) (i := 2) (by kernel_rfl) (pc_R (List.mem_append_right _ (rec_ia hq))) (pc_R (List.mem_append_right _ (rec_id hq))) rfl rfl ?_
          repeat walk_at "ex"
          refine call_iter_l (pc_R (List.mem_append_right _ (rec_la hq))) fun I hI => ?_
          repeat walk_at "ex"
          refine ga_wnext List.mem_cons_self fun w hw => ?_
          repeat walk_at "ex"
          simp only [keys_cons, List.mem_cons, not_or] at hw
          refine call_append (up2 pc_mik) ?hz1 ?_
          case hz1 => rw [List.length_reverse, List.length_map]; walk_at "le"
          have hn2 : (AH.keys (PC a ep (q.node :: seen) (iv (fr.map (·.node)).reverse) ((fr.map fun f => Value.ref f.w).reverse) (place fr) (FC fr ++ (SCX σ ++ R)))).Nodup := hnd0
          have hIk : I ≠ a.sk ∧ I ≠ a.ik ∧ I ≠ a.se ∧ I ≠ a.d := by
            unfold PC at hI
            simp only [keys_cons, List.mem_cons, not_or] at hI
            exact ⟨hI.1, hI.2.1, hI.2.2.1, hI.2.2.2.1⟩
          have hwk : w ≠ a.sk ∧ w ≠ a.ik ∧ w ≠ a.se ∧ w ≠ a.d := by
            have hw2 := hw.2
            unfold PC at hw2
            simp only [keys_cons, List.mem_cons, not_or] at hw2
            exact ⟨hw2.1, hw2.2.1, hw2.2.2.1, hw2.2.2.2.1⟩
          rw [put_cons, if_neg hwk.2.1, put_cons, if_neg hIk.2.1, pc_ik hn2]
          repeat walk_at "ex"
          refine call_len_l (up2 pc_msk) ?hz2 ?_
          case hz2 => rw [List.length_map, List.length_reverse, List.length_map]; walk_at "le"
          repeat walk_at "ex"
          refine si_dict (up2 pc_md) ?hz3 fun ep' => ?_
          case hz3 => rw [place_len]; walk_at "le"
          have hn3 : (AH.keys (PC a ep (q.node :: seen) (iv (fr.map (·.node)).reverse) ((fr.map fun f => Value.ref f.w).reverse ++ [.ref w]) (place fr) (FC fr ++ (SCX σ ++ R)))).Nodup := hnd0
          have est : stored (place fr) q.node (vI ((iv (fr.map (·.node)).reverse).length : Nat)) = place (⟨q.node, w, I, q.la, 0⟩ :: fr) := by
            rw [List.length_map, List.length_reverse, List.length_map]
            exact place_push (f := ⟨q.node, w, I, q.la, 0⟩) hkn
          rw [put_cons, if_neg hwk.2.2.2, put_cons, if_neg hIk.2.2.2, pc_d hn3, est]
          repeat walk_at "ex"
          refine gm_list (up2 pc_msk) PySem.F.slot_list_append PySem.F.type_list_append ?_
          repeat walk_at "ex"
          refine call_append (up2 pc_msk) ?hz4 ?_
          case hz4 => rw [List.length_map, List.length_reverse, List.length_map]; walk_at "le"
          have hn4 : (AH.keys (PC a ep' (q.node :: seen) (iv (fr.map (·.node)).reverse) ((fr.map fun f => Value.ref f.w).reverse ++ [.ref w]) (place (⟨q.node, w, I, q.la, 0⟩ :: fr)) (FC fr ++ (SCX σ ++ R)))).Nodup := hnd0
          rw [put_cons, if_neg hwk.1, put_cons, if_neg hIk.1, pc_sk hn4]
          repeat walk_at "ex"
          refine ⟨q.node :: seen, fin, ⟨q.node, w, I, q.la, 0⟩ :: fr, ep', ?_, hS.push hk1 hkg, ?_, ?_, WkL.cons WkL.refl, ?_⟩
          · have := Msr.push (g := σ.g) (fr := fr) (w := w) (I := I) (la := q.la) (by rw [g_nodes]; exact ok.nodes) hkg hk1; omega
          · exact hks.elim (fun h => List.mem_cons_of_mem _ h) fun h => h ▸ List.mem_cons_self
          · intro f' hf'
            rcases List.mem_cons.mp hf' with rfl | hf'
            · exact ⟨q, hq, rfl, rfl⟩
            · exact hfr f' hf'
          · rw [dc_pc, List.map_cons, List.map_cons, List.reverse_cons, List.reverse_cons, iv_append]
            exact Wk.perm (List.perm_append_comm (l₁ := [_, _]) (l₂ := [_, _, _, _]) |>.append_right (FC fr ++ (SCX σ ++ R)))
      · rintro m' H' ⟨seen, fin, fr, ep, hN, hS, hks, hfr, hm, hW⟩
        refine exs_wk hm hW ?_
        repeat walk_at "ex"
        refine ex_while (fun N2 m' H' => ∃ seen fin fr ep, fr.length = N2 ∧ Msr σ.g seen fr ≤ N ∧ SR σ.g i seen fin fr none ∧ k0 ∈ seen ∧ FrOk σ fr ∧
          WkL m' [("node2stacki", .ref a.d), ("seen", .ref a.se), ("itstack", .ref a.ik), ("stack", .ref a.sk), ("n2i", .ref σ.nd)] ∧ Wk H' (DC a ep seen fr (SCX σ ++ R)))
          fr.length ⟨seen, fin, fr, ep, rfl, hN, hS, hks, hfr, WkL.refl, Wk.refl⟩ ?_
        clear hW hm hS hks hfr hN
        rintro N2 m' H' ⟨seen, fin, fr, ep, rfl, hN, hS, hks, hfr, hm, hW⟩
        refine it_wk hm hW (aw_nodup fun hnd => ?_)
        repeat walk_at "ex"
        refine tr_list' dc_sk ?_ ?_
        · have := hS.small.1; rw [List.length_map, List.length_reverse, List.length_map]; walk_at "le"
        refine if_dec (fun hb1 => ?_) (fun hb1 => ?_)
        · obtain ⟨f, r, rfl⟩ : ∃ f r, fr = f :: r := by
            cases fr with
            | nil => cases hb1
            | cons f r => exact ⟨f, r, rfl⟩
          repeat walk_at "ex"
          refine ex_try hh ?_
          repeat walk_at "ex"
          have eik : ((f :: r).map fun f => Value.ref f.w).reverse = (r.map fun f => Value.ref f.w).reverse ++ [.ref f.w] := by rw [List.map_cons, List.reverse_cons]
          have hik' : (a.ik, AO.list ((r.map fun f => Value.ref f.w).reverse ++ [.ref f.w])) ∈ DC a ep seen (f :: r) (SCX σ ++ R) := by rw [← eik]; exact dc_ik
          obtain ⟨q, hq, hqn, hql⟩ := hfr f List.mem_cons_self
          have hla : (f.la, AO.list (iv (gSuc σ.g f.node))) ∈ DC a ep seen (f :: r) (SCX σ ++ R) := by
            rw [← hqn, gSuc_rec ok hq, ← hql]; exact dc_R (rec_la hq)
          have hfw : (f.w, AO.flds (.type "method-wrapper") [.builtin "list_iterator.__next__", .ref f.I]) ∈ DC a ep seen (f :: r) (SCX σ ++ R) := dc_f (List.mem_cons_self)
          have hfI : (f.I, AO.flds (.type "list_iterator") [.ref f.la, vI f.idx]) ∈ DC a ep seen (f :: r) (SCX σ ++ R) := dc_f (List.mem_cons_of_mem _ List.mem_cons_self)
          refine sub_list_last hik' ?_
          repeat walk_at "ex"
          cases hx : (gSuc σ.g f.node)[f.idx]? with
          | some s =>
            refine ⟨kp_bmethod hfw (.inr rfl), (call_wnext hfw hfI hla (v := vI s) (by rw [List.getElem?_map, hx]; rfl) ?_).call⟩
            rw [dc_take hnd]
            repeat walk_at "ex"
            have hlt := (List.getElem?_eq_some_iff.mp hx).1
            refine ⟨N - 1, ?_, seen, fin, { f with idx := f.idx + 1 } :: r, ep, s, ?_, hS.take hx, ?_, .inl hks, ?_, WkL.refl, Wk.refl⟩
            · have := Msr.take (g := σ.g) (seen := seen) (fr := r) hlt; omega
            · have := Msr.take (g := σ.g) (seen := seen) (fr := r) hlt; omega
            · refine hcl f.node (q.np, q.su) (by rw [← hqn]; exact rec_gAt ok hq) s ?_
              rw [← gSuc_rec ok hq, hqn]
              exact List.mem_of_getElem? hx
            · intro f' hf'
              rcases List.mem_cons.mp hf' with rfl | hf'
              · exact hfr f List.mem_cons_self
              · exact hfr f' (List.mem_cons_of_mem _ hf')
          | none =>
            refine ⟨kp_bmethod hfw (.inr rfl), (call_wnext_end hR'.hand hfw hfI hla (by rw [List.getElem?_map, hx]; rfl) fun e he => ?_).call⟩
            refine ⟨e, .type "StopIteration", _, rfl, .inl rfl, fun H₁ hT => ?_⟩
            refine' hb_builtin (T := "StopIteration") hT (fun Q' hQ' => ?hev) (fun H₂ hT₂ => ?hsuite) ?hexc ?hnt ?hsub
            case hexc => rw [isSubtype_type]; kernel_rfl
            case hnt => rw [isSubtype_type]; kernel_rfl
            case hsub => exact isSub_stop
            case hev =>
              repeat walk_at "ex"
              exact hQ'
            obtain ⟨Tt, rfl⟩ := hT₂
            have eiv : iv (((f :: r).map (·.node)).reverse) = iv (r.map (·.node)).reverse ++ [vI f.node] := by
              rw [List.map_cons, List.reverse_cons, iv_append]; rfl
            refine exs_wk WkL.refl (Wk.cons (Wk.cons (dc_end hnd))) (exs_nodup fun hn2 => ?_)
            repeat walk_at "ex"
            refine gm_list pc_msk PySem.F.slot_list_pop PySem.F.type_list_pop ?_
            repeat walk_at "ex"
            refine call_pop pc_msk ?hz1 ?_
            case hz1 => have := hS.small.1; rw [List.length_cons] at this; rw [List.length_map, List.length_reverse, List.length_map]; walk_at "le"
            rw [pc_sk hn2]
            refine di_dict (pc_md) (by rw [dval_isSome]; exact decide_eq_true (place_mem.mpr List.mem_cons_self)) ?hz2 fun ep' => ?_
            case hz2 => have := hS.small.1; rw [place_len]; walk_at "le"
            have hn3 : (AH.keys (PC a ep seen (iv (r.map (·.node)).reverse) ((r.map fun f => Value.ref f.w).reverse ++ [.ref f.w]) (place (f :: r)) (FC r ++ (SCX σ ++ R)))).Nodup := hn2
            rw [pc_d hn3, place_pop (List.nodup_cons.mp hS.dfs.stN).1]
            repeat walk_at "ex"
            refine gm_list pc_mik PySem.F.slot_list_pop PySem.F.type_list_pop ?_
            repeat walk_at "ex"
            refine call_pop pc_mik ?hz3 ?_
            case hz3 => have := hS.small.1; rw [List.length_cons] at this; rw [List.length_reverse, List.length_map]; walk_at "le"
            have hn4 : (AH.keys (PC a ep' seen (iv (r.map (·.node)).reverse) ((r.map fun f => Value.ref f.w).reverse ++ [.ref f.w]) (place r) (FC r ++ (SCX σ ++ R)))).Nodup := hn2
            rw [pc_ik hn4]
            repeat walk_at "ex"
            exact ⟨r.length, Nat.lt_succ_self _, seen, fin ++ [f.node], r, ep', rfl, Nat.le_trans Msr.pop hN, hS.pop hx, hks, fun f' hf' => hfr f' (List.mem_cons_of_mem _ hf'), WkL.refl, Wk.refl⟩
        · obtain rfl : fr = [] := by
            cases fr with
            | nil => rfl
            | cons f r => rw [List.map_cons, List.reverse_cons, iv_append] at hb1; simp at hb1
          repeat walk_at "ex"
          exact ⟨seen, fin, ep, hS.next hk0 hks, WkL.refl, Wk.refl⟩
  · rintro m' H' ⟨seen, fin, ep, hS, hm, hW⟩
    repeat walk_at "ex"
    refine ⟨_, hW.trans hdrop, h1 fin (hS.dfs.fin fun k hk => hS.pre k ?_)⟩
    rw [List.length_map, show σ.kvs.length = (σ.g.map (·.1)).length from by unfold SS.kvs SS.g; simp, List.take_length]
    exact hk
end

section
variable {C : Cfg} {A : Around} {fx : Fx} {m : Lo} {H R : AH} {X : Value → Lo → AH → Prop} {Q : Value → Lo → AH → Prop} {n : Nat} {σ : SS}
theorem prepare_ok (T : Top C (K04 C.w.params)) (hR : Room A (n + 6)) (ok : σ.Ok) (hrdy : σ.rdy = none) (hz : σ.g.length ≤ 1000) (hcl : ∀ k x, gAt σ.g k = some x → ∀ s ∈ x.2, s ∈ σ.g.map (·.1))
    (h1 : ∀ σ' F ra, σ'.Ok → σ'.sa = σ.sa → σ'.rdy = some (ra, gFree σ.g) → σ'.po = σ.po → σ'.nf = σ.nf → σ'.g = σ.g → Fin' σ.g F → Q .none m (SCX σ' ++ R))
    (h2 : ∀ σ' v ra e H', σ'.Ok → σ'.sa = σ.sa → σ'.rdy = some (ra, gFree σ.g) → σ'.po = σ.po → σ'.nf = σ.nf → σ'.g = σ.g → Ring σ.g v → ExnT e (.ref 55) .none (SCX σ' ++ R) H' → X (.ref e) m H') :
    CALLC C A fx (.ref 92) [.ref σ.sa] m (SCX σ ++ R) Q X := by
  refine callc_wkp ?_
  refine' call1x hR (fnAt (T := T) ?ho ?hcode ?hco ?hgen ?hk) "self" ?b1 ?b2 ?body
  walk_at "fn"
  intro A' fx' hR' hh Z
  have l1 : σ.fs.lookup ("_ready_nodes" : PySem.Str) = some Value.none := by rw [ok.fs]; show some σ.rv = _; unfold SS.rv; rw [hrdy]
  have l2 : σ.fs.lookup ("_node2info" : PySem.Str) = some (Value.ref σ.nd) := ok.fs _
  have hgl : σ.recs.length ≤ 1000 := by rw [recs_len]; exact hz
  repeat walk_at "ex"
  refine ga_dict (T := T) (by kernel_rfl) sc_sa sc_sd l1 rfl ?_
  repeat walk_at "ex"
  refine ga_dict (T := T) (by kernel_rfl) sc_sa sc_sd l2 rfl ?_
  repeat walk_at "ex"
  refine gm_dict sc_nd PySem.F.slot_dict_values PySem.F.type_dict_values ?_
  repeat walk_at "ex"
  refine call_values sc_nd fun v hv => ?_
  repeat walk_at "ex"
  have hI : ITR C A' fx' (.ref v) [("self", .ref σ.sa)] ((v, .flds (.type "dict_values") [.ref σ.nd]) :: (SCX σ ++ R)) (σ.recs.map fun r => Value.ref r.ia) (fun H => (σ.nd, AO.dict σ.kvs σ.ep) ∈ H) := by
    have := itr_vals (C := C) (A := A') (fx := fx') (m := [("self", .ref σ.sa)]) (H := (v, .flds (.type "dict_values") [.ref σ.nd]) :: (SCX σ ++ R)) hR'.hand List.mem_cons_self (up1 sc_nd)
    unfold SS.kvs at this
    rw [List.map_map] at this
    exact this
  refine' turns_lc ?hb' hI (fun H hW => hW.1 _ (up1 sc_nd)) (by walk_at "le") (fun r => decide (r.np = 0)) (fun r => vI r.node) ?turn ?fin Z.scope
  case hb' => rfl
  case turn =>
    intro fx2 Z2 r hr
    repeat walk_at "ex"
    refine ga_slot (T := T) (p := 42) (i := 1) (by kernel_rfl) (up1 (rec_ia hr)) (up1 (rec_id hr)) rfl rfl ?_
    repeat walk_at "ex"
    refine if_dec (fun hb0 => ?_) (fun hb0 => ?_)
    · repeat walk_at "ex"
      refine ⟨hb0.symm, if_yes ?_⟩
      repeat walk_at "ex"
      refine ga_slot (T := T) (p := 41) (i := 0) (by kernel_rfl) (up1 (rec_ia hr)) (up1 (rec_id hr)) rfl rfl ?_
      exact ⟨rfl, by walk_at "wkl", Wk.refl⟩
    · repeat walk_at "ex"
      exact ⟨hb0.symm, if_no ⟨by walk_at "wkl", Wk.refl⟩⟩
  case fin =>
    intro a ha
    have ha' := ha
    simp only [keys_cons, List.mem_cons, not_or] at ha'
    have hsd : σ.sd ∈ AH.keys (SCX σ ++ R) := mem_keys sc_sd
    repeat walk_at "ex"
    refine sa_dict (T := T) (by kernel_rfl) (up2 sc_sa) (up2 sc_sd) (Nat.le_trans ok.len (by decide)) ?_
    refine seq_next (exs_nodup fun hnd => ?_)
    rw [AH.keys_put, keys_cons, keys_cons, List.nodup_cons, List.nodup_cons] at hnd
    rw [put_cons, if_neg (fun e => ha'.2 (by rw [e]; exact hsd)), put_cons, if_neg (fun e => hv (by rw [e]; exact hsd)), put_fs hnd.2.2]
    have egf : (σ.recs.filter fun r => decide (r.np = 0)).map (fun r => vI r.node) = iv (gFree σ.g) := by
      unfold gFree SS.g
      rw [List.filter_map, List.map_map]
      show _ = List.map vI _
      rw [List.map_map]
      rfl
    rw [egf]
    obtain ⟨σ', hσ'⟩ : ∃ σ' : SS, σ' = { σ with fs := nsPut σ.fs "_ready_nodes" (.ref a), rdy := some (a, gFree σ.g) } := ⟨_, rfl⟩
    have hrc : σ.rc = [] := by unfold SS.rc; rw [hrdy]
    have hW : Wk ((a, AO.list (iv (gFree σ.g))) :: (v, AO.flds (Value.type "dict_values") [.ref σ.nd]) :: (SCX { σ with fs := nsPut σ.fs "_ready_nodes" (.ref a) } ++ R)) (SCX σ' ++ R) := by
      refine (Wk.keep (Wk.cons Wk.refl)).trans (Wk.perm ?_)
      rw [hσ']
      show List.Perm ((a, AO.list (iv (gFree σ.g))) :: (((σ.sa, _) :: (σ.sd, _) :: (σ.nd, _) :: (σ.rc ++ RC 40 σ.recs)) ++ R)) (((σ.sa, _) :: (σ.sd, _) :: (σ.nd, _) :: ([(a, AO.list (iv (gFree σ.g)))] ++ RC 40 σ.recs)) ++ R)
      rw [hrc]
      exact (List.perm_middle (l₁ := [(σ.sa, _), (σ.sd, _), (σ.nd, _)])).symm
    have ok' : σ'.Ok := by
      rw [hσ']
      refine ⟨fun y => ?_, Nat.le_trans (nsPut_len (w := σ.rv) (by rw [ok.fs]; rfl)) ok.len, ok.nodes⟩
      rw [nsPut_lookup, ok.fs]
      unfold SS.look
      by_cases h : y = "_ready_nodes"
      · subst h; rfl
      · rw [if_neg h, if_neg h, if_neg h]
    obtain ⟨q1, q2, q3, q4, q5, q6⟩ : σ'.sa = σ.sa ∧ σ'.rdy = some (a, gFree σ.g) ∧ σ'.po = σ.po ∧ σ'.nf = σ.nf ∧ σ'.g = σ.g ∧ σ'.sd = σ.sd := by rw [hσ']; exact ⟨rfl, rfl, rfl, rfl, rfl, rfl⟩
    clear hσ'
    refine exs_wk WkL.refl hW ?_
    rw [← q1]
    repeat walk_at "ex"
    refine gm_own (T := T) (f := 127) (by kernel_rfl) sc_sa sc_sd (ok'.none (by rintro (e | e | e | e) <;> exact absurd e (by decide))) ?_
    repeat walk_at "ex"
    walk_at "kpf"
    refine (cycle_ok T hR' ok' (by rw [q5]; exact hz) (by rw [q5]; exact hcl) (fun F hF => ?_) fun v t ht hv hvl => ?_).call
    · repeat walk_at "ex"
      exact ⟨_, Wk.refl, h1 σ' F a ok' q1 q2 q3 q4 q5 (q5 ▸ hF)⟩
    · repeat walk_at "ex"
      refine tr_list' List.mem_cons_self (by rw [List.length_map]; walk_at "le") ?_
      have hne : (!(iv v).isEmpty) = true := by
        obtain ⟨a, r, rfl, _⟩ := hv
        rfl
      rw [hne]
      repeat walk_at "ex"
      refine ex_raise_own (excC (T := T) (c := 55) (x := "CycleError") ?he ?hq PySem.F.excBase_ValueError) hR'.hand ?hev ?hplain
      case he => k_is
      case hq => kernel_rfl
      case hplain => rfl
      repeat walk_at "ex"
      refine ⟨rfl, ?_⟩
      repeat walk_at "ex"
      refine ⟨Nat.le_of_ble_eq_true rfl, fun e he => ⟨e, .ref 55, _, rfl, .inl rfl, fun H' hT => ?_⟩⟩
      obtain ⟨T', rfl⟩ := hT
      exact ⟨(e, _) :: (T', _) :: (SCX σ' ++ R), Wk.keep (Wk.keep (Wk.cons Wk.refl)), h2 σ' v a e _ ok' q1 q2 q3 q4 q5 (q5 ▸ hv) ⟨T', rfl⟩⟩
end

section
variable {C : Cfg} {A : Around} {fx : Fx} {m : Lo} {H R : AH} {X : Value → Lo → AH → Prop} {Q : Value → Lo → AH → Prop} {n : Nat}
noncomputable def eqI : Value → Value → Bool
  | .int i _, .int j _ => i == j
  | _, _ => false
theorem filter_iv (xs ys : List Int) : ((iv xs).filter fun u => !((iv ys).any fun y => eqI y u)) = iv (xs.filter fun x => decide (x ∉ ys)) := by
  have h : ∀ x : Int, ((iv ys).any fun y => eqI y (vI x)) = decide (x ∈ ys) := by
    intro x
    rw [Bool.eq_iff_iff]
    simp only [List.any_eq_true, decide_eq_true_eq]
    constructor
    · rintro ⟨v, hv, he⟩
      obtain ⟨y, hy, rfl⟩ := List.mem_map.mp hv
      have : y = x := by simpa [eqI] using he
      exact this ▸ hy
    · exact fun hx => ⟨vI x, List.mem_map.mpr ⟨x, hx, rfl⟩, by simp [eqI]⟩
  unfold iv
  rw [List.filter_map]
  congr 1
  refine List.filter_congr fun x _ => ?_
  simp only [Function.comp]
  have := h x
  unfold iv at this
  rw [this]
  simp
theorem filter_ints {l sk : Addr} {xs ys : List Int} (T : Top C (K04 C.w.params)) (hR : Room A (n + 3)) (hl : (l, AO.list (iv xs)) ∈ H) (hs : (sk, AO.list (iv ys)) ∈ H) (hz : xs.length < 1000000)
    (h : ∀ D, D ∉ H.keys → Q (.ref D) m ((D, .list (iv (xs.filter fun x => decide (x ∉ ys)))) :: H)) : CALLC C A fx (.ref 185) [.ref l, .ref sk] m H Q X := by
  refine filter_ok eqI T hR hl hs (by rw [List.length_map]; exact hz) (fun y hy u hu => ?_) fun D hD => ?_
  · obtain ⟨i, _, rfl⟩ := List.mem_map.mp hy
    obtain ⟨j, _, rfl⟩ := List.mem_map.mp hu
    exact EQV.int i j
  · rw [filter_iv]; exact h D hD
end

section
variable {C : Cfg} {A : Around} {fx : Fx} {m : Lo} {H R : AH} {X : Value → Lo → AH → Prop} {Q : Value → Lo → AH → Prop} {n : Nat} {σ : SS}
theorem ring_ok (T : Top C (K04 C.w.params)) (hR : Room A (n + 8)) (ok : σ.Ok) (hrdy : σ.rdy = none) (hz : σ.g.length ≤ 1000) (hcl : ∀ k x, gAt σ.g k = some x → ∀ s ∈ x.2, s ∈ σ.g.map (·.1))
    (h : ∀ σ' rg ra, σ'.Ok → σ'.sa = σ.sa → σ'.rdy = some (ra, gFree σ.g) → σ'.po = σ.po → σ'.nf = σ.nf → σ'.g = σ.g → (rg = true → ∃ v, Ring σ.g v) → (rg = false → ∃ F, Fin' σ.g F) → Q (.bool rg) m (SCX σ' ++ R)) :
    CALLC C A fx (.ref 214) [.ref σ.sa] m (SCX σ ++ R) Q X := by
  refine callc_wkp ?_
  refine' call1x hR (fnAt (T := T) ?ho ?hcode ?hco ?hgen ?hk) "sorter" ?b1 ?b2 ?body
  walk_at "fn"
  intro A' fx' hR' hh Z
  repeat walk_at "ex"
  refine ex_try hh ?_
  repeat walk_at "ex"
  refine gm_own (T := T) (f := 92) (by kernel_rfl) sc_sa sc_sd (ok.none (by rintro (e | e | e | e) <;> exact absurd e (by decide))) ?_
  repeat walk_at "ex"
  walk_at "kpf"
  refine (prepare_ok T hR' ok hrdy hz hcl (fun σ' F ra ok' q1 q2 q3 q4 q5 hF => ?_) fun σ' v ra e H' ok' q1 q2 q3 q4 q5 hv hT => ?_).call
  · repeat walk_at "ex"
    exact ⟨_, Wk.refl, h σ' false ra ok' q1 q2 q3 q4 q5 (fun z => by cases z) fun _ => ⟨F, hF⟩⟩
  · refine ⟨e, .ref 55, _, rfl, .inr (.inl hT), fun H'' hT' => ?_⟩
    refine' hb_own (excC (T := T) (c := 55) (x := "CycleError") ?hce ?hcq PySem.F.excBase_ValueError) hT' (fun Q' hQ' => ?hev) (fun H₂ hT₂ => ?hsuite)
    case hce => k_is
    case hcq => kernel_rfl
    case hev =>
      repeat walk_at "ex"
      exact hQ'
    case hsuite =>
      obtain ⟨T', rfl⟩ := hT₂
      repeat walk_at "ex"
      exact ⟨_, Wk.cons (Wk.cons Wk.refl), h σ' true ra ok' q1 q2 q3 q4 q5 (fun _ => ⟨v, hv⟩) fun z => by cases z⟩
end

section
variable {C : Cfg} {A : Around} {fx : Fx} {m : Lo} {H R : AH} {X : Value → Lo → AH → Prop} {Q : Value → Lo → AH → Prop} {n : Nat}
noncomputable def folTold (dr : Int) (sz : Nat) (x : Int) : Int := (4176 + 98765432100123 * dr).fdiv (4 ^ (x * sz).toNat)
noncomputable def folGreat (dr : Int) (sz : Nat) (x : Int) : List Int := (upto sz).filter fun y => decide (x < y) && (((folTold dr sz x).fdiv (4 ^ y.toNat)).fmod 2 == 1)
noncomputable def folSmall (dr : Int) (sz : Nat) (x : Int) : List Int := (upto (x + 1).toNat).filter fun y => (dr.fmod 3 == 2) && (((folTold dr sz x).fdiv (4 ^ y.toNat)).fmod 4 == 1)
noncomputable def folRow (dr : Int) (sz : Nat) (x : Int) : List Int := folSmall dr sz x ++ folGreat dr sz x
theorem follow_ok {dr : Int} {sz : Nat} (T : Top C (K04 C.w.params)) (hR : Room A (n + 1)) (hz : sz ≤ 5)
    (h : ∀ d ep kl', d ∉ AH.keys (LC (kl'.map (·.2)) ++ H) → Tab kl' (upto sz) (folRow dr sz) → Q (.ref d) m ((d, .dict (kvL kl') ep) :: (LC (kl'.map (·.2)) ++ H))) :
    CALLC C A fx (.ref 190) [vI dr, vI sz] m H Q X := by
  refine callc_wkp ?_
  refine' call2 hR (fnAt (T := T) ?ho ?hcode ?hco ?hgen ?hk) "drawn" "size" ?b1 ?b2 ?body
  walk_at "fn"
  intro A' fx' hR' Z
  repeat walk_at "ex"
  intro d hd
  repeat walk_at "ex"
  walk_at "for"
  repeat walk_at "ex"
  refine call_range fun r hr => ?_
  refine ⟨_, _, itr_upto hR'.hand (by walk_at "le") List.mem_cons_self, fun i m' H' => ∃ ep kl, Tab kl ((upto sz).take i) (folRow dr sz) ∧ WkL m' [("drawn", vI dr), ("size", vI sz), ("follow", .ref d)] ∧ Wk H' ((d, .dict (kvL kl) ep) :: (LC (kl.map (·.2)) ++ H)),
    ⟨0, [], rfl, by walk_at "wkl", Wk.cons Wk.refl⟩, fun _ _ _ _ => trivial, ?_, ?_⟩
  · rintro i v m' H' hv ⟨ep, kl, ht, hm, hW⟩
    rw [List.getElem?_map] at hv
    obtain ⟨x, hx, rfl⟩ := Option.map_eq_some_iff.mp hv
    refine asg_wk hm hW ?_
    have hxu := List.mem_of_getElem? hx
    have hx0 := upto_mem.mp hxu
    have hx5 : (x + 1).toNat ≤ 5 := by omega
    have hxs : 0 ≤ x * sz ∧ x * sz ≤ 20 := by
      have h1 : x * sz ≤ 4 * 5 := Int.mul_le_mul (by walk_at "le") (by walk_at "le") (by walk_at "le") (by walk_at "le")
      exact ⟨Int.mul_nonneg hx0.1 (by walk_at "le"), by omega⟩
    have hfr : x ∉ kl.map (·.1) := by
      rw [ht.keys]
      have := take_fresh hx id (by rw [List.map_id]; exact upto_nd)
      rwa [List.map_id] at this
    have htn : ∀ a : Addr, Tab (kl ++ [(x, a, folRow dr sz x)]) ((upto sz).take (i + 1)) (folRow dr sz) := fun a => by
      unfold Tab at ht ⊢
      rw [List.map_append, ht, map_take hx fun y => (y, folRow dr sz y)]; rfl
    repeat walk_at "ex"
    refine bo_mul (IntMulOk.of_left (by decide +kernel)) ?_
    repeat walk_at "ex"
    refine bo_mul (IntMulOk.of_left (bits_small' hx0.1 (by walk_at "le"))) ?_
    repeat walk_at "ex"
    refine bo_pow4 hxs.1 (by walk_at "le") ?_
    repeat walk_at "ex"
    refine bo_fdiv (int_pow4_ne _) (pylong4 _ (by walk_at "le")) ?_
    have et : (4176 + 98765432100123 * dr).fdiv (4 ^ (x * sz).toNat) = folTold dr sz x := rfl
    rw [et]
    repeat walk_at "ex"
    refine call_range fun r2 hr2 => ?_
    refine' turns_lc (us := upto sz) (tv := vI) ?hb (itr_upto hR'.hand (by walk_at "le") List.mem_cons_self) (fun H hW => trivial) (by rw [upto_len]; walk_at "le") (fun y => decide (x < y) && (((folTold dr sz x).fdiv (4 ^ y.toNat)).fmod 2 == 1)) vI ?turn ?fin Z.scope
    case hb => rfl
    case turn =>
      intro fx2 Z2 y hy
      have hy0 := upto_mem.mp hy
      repeat walk_at "ex"
      refine if_dec (fun hb1 => ?_) (fun hb1 => ?_)
      · repeat walk_at "ex"
        refine bo_pow4 hy0.1 (by walk_at "le") ?_
        repeat walk_at "ex"
        refine bo_fdiv (int_pow4_ne _) (pylong4 _ (by walk_at "le")) ?_
        repeat walk_at "ex"
        refine bo_mod (by decide) ?_
        repeat walk_at "ex"
        rw [hb1, Bool.true_and]
        walk_at "pick"
      · repeat walk_at "ex"
        rw [hb1, Bool.false_and]
        exact ⟨rfl, if_no ⟨by walk_at "wkl", by walk_at "wk"⟩⟩
    case fin =>
      intro g hg
      have eg : ((upto sz).filter fun y => decide (x < y) && (((folTold dr sz x).fdiv (4 ^ y.toNat)).fmod 2 == 1)).map vI = iv (folGreat dr sz x) := rfl
      rw [eg]
      repeat walk_at "ex"
      refine call_range' (by walk_at "le") fun r3 hr3 => ?_
      refine' turns_lc (us := upto (x + 1).toNat) (tv := vI) ?hb2 (itr_upto hR'.hand (by walk_at "le") List.mem_cons_self) (fun H hW => trivial) (by rw [upto_len]; walk_at "le") (fun y => (dr.fmod 3 == 2) && (((folTold dr sz x).fdiv (4 ^ y.toNat)).fmod 4 == 1)) vI ?turn2 ?fin2 Z.scope
      case hb2 => rfl
      case turn2 =>
        intro fx2 Z2 y hy
        have hy0 := upto_mem.mp hy
        repeat walk_at "ex"
        refine bo_mod (by decide) ?_
        repeat walk_at "ex"
        refine if_dec (fun hb1 => ?_) (fun hb1 => ?_)
        · repeat walk_at "ex"
          refine bo_pow4 hy0.1 (by walk_at "le") ?_
          repeat walk_at "ex"
          refine bo_fdiv (int_pow4_ne _) (pylong4 _ (by walk_at "le")) ?_
          repeat walk_at "ex"
          refine bo_mod (by decide) ?_
          repeat walk_at "ex"
          rw [hb1, Bool.true_and]
          walk_at "pick"
        · repeat walk_at "ex"
          rw [hb1, Bool.false_and]
          exact ⟨rfl, if_no ⟨by walk_at "wkl", by walk_at "wk"⟩⟩
      case fin2 =>
        intro c hc
        have es : ((upto (x + 1).toNat).filter fun y => (dr.fmod 3 == 2) && (((folTold dr sz x).fdiv (4 ^ y.toNat)).fmod 4 == 1)).map vI = iv (folSmall dr sz x) := rfl
        rw [es]
        have hl1 : (folSmall dr sz x).length ≤ (x + 1).toNat := by
          unfold folSmall
          refine Nat.le_trans (List.length_filter_le _ _) ?_
          rw [upto_len]; exact Nat.le_refl _
        have hl2 : (folGreat dr sz x).length ≤ sz := by
          unfold folGreat
          refine Nat.le_trans (List.length_filter_le _ _) ?_
          rw [upto_len]; exact Nat.le_refl _
        repeat walk_at "ex"
        refine bo_cat List.mem_cons_self (up2 List.mem_cons_self) (by simp only [List.length_map]; omega) fun b hb => ?_
        rw [← iv_append]
        repeat walk_at "ex"
        refine si_row (H' := H) (kl := kl) (ep := ep) (xs := folRow dr sz x) ?_ ?_ hfr fun ep' => ?_
        · exact Wk.keep (Wk.cons (Wk.cons (Wk.cons (Wk.cons Wk.refl))))
        · rw [ht.len, List.length_take, upto_len]; exact Nat.le_trans (Nat.min_le_right _ _) (le_N hz rfl)
        repeat walk_at "ex"
        exact ⟨ep', _, htn b, by walk_at "wkl", Wk.refl⟩
  · rintro m' H' ⟨ep, kl, ht, hm, hW⟩
    rw [List.length_map, List.take_of_length_le (Nat.le_refl _)] at ht
    refine exs_wk hm hW (exs_nodup fun hnd => ?_)
    repeat walk_at "ex"
    exact ⟨_, Wk.refl, h d ep kl (List.nodup_cons.mp hnd).1 ht⟩
end

section
variable {C : Cfg} {A : Around} {fx : Fx} {m : Lo} {H R : AH} {X : Value → Lo → AH → Prop} {Q : Value → Lo → AH → Prop} {n : Nat}
theorem blocks_ok {gd : Addr} {kl : List (Int × Addr × List Int)} {ks : List Int} {f : Int → List Int} (T : Top C (K04 C.w.params)) (hR : Room A (n + 5)) (hd : DL H gd kl) (ht : Tab kl ks f) (hn : ks.Nodup)
    (hz : ks.length ≤ 5) (hfn : ∀ x ∈ ks, (f x).Nodup) (hcl : ∀ x ∈ ks, ∀ y ∈ f x, y ∈ ks)
    (h : ∀ ba ls H', ls.map (·.2) = blocksF ks f → (ba, AO.list (refsL ls)) ∈ H' → InL H' ls → Wk H' H → Q (.ref ba) m H') :
    CALLC C A fx (.ref 197) [.ref gd] m H Q X := by
  refine callc_wkp ?_
  refine' call1 hR (fnAt (T := T) ?ho ?hcode ?hco ?hgen ?hk) "follow" ?b1 ?b2 ?body
  walk_at "fn"
  intro A' fx' hR' Z
  obtain ⟨ep, hep⟩ := hd.1
  repeat walk_at "ex"
  refine ⟨by decide, fun b0 hb0 => ?_⟩
  repeat walk_at "ex"
  walk_at "for"
  repeat walk_at "ex"
  refine ⟨_, _, itr_tab hR'.hand (up1 hep) ht, fun i m' H' => ∃ ba ls, ls.map (·.2) = (ks.take i).foldl (blkStep f) [] ∧ WkL m' [("blocks", .ref ba), ("follow", .ref gd)] ∧ (ba, AO.list (refsL ls)) ∈ H' ∧ InL H' ls ∧ Wk H' H,
    ⟨b0, [], rfl, by walk_at "wkl", List.mem_cons_self, (fun p hp => by cases hp), Wk.cons Wk.refl⟩, ?_, ?_, ?_⟩
  · rintro i m' H' ⟨_, _, _, _, _, _, hW⟩
    exact hW.1 _ hep
  · rintro i v m' H' hv ⟨ba, ls, hls, hm, hba, hin, hW⟩
    rw [List.getElem?_map] at hv
    obtain ⟨x, hx, rfl⟩ := Option.map_eq_some_iff.mp hv
    have hxk := List.mem_of_getElem? hx
    have hBI := blocks_take (i := i) hfn
    have htk : ∀ x ∈ ks.take i, ∀ y ∈ f x, y ∈ ks := fun x hx => hcl x (List.mem_of_mem_take hx)
    have hfold := fold_take (blkStep f) [] hx
    have hlsl : ls.length ≤ 5 := by
      have := hBI.len htk
      rw [← hls, List.length_map] at this; omega
    have hll : ∀ p ∈ ls, p.2.length ≤ 5 := fun p hp => by
      have := hBI.blen htk p.2 (by rw [← hls]; exact List.mem_map_of_mem hp)
      omega
    have hfx : (f x).length ≤ 5 := Nat.le_trans (nd_len (hfn x hxk) (hcl x hxk)) hz
    refine asg_wk hm Wk.refl ?_
    repeat walk_at "ex"
    refine' ex_swap2 (n1 := "block") (n2 := "apart") hR'.hand (Z.own _ rfl) (Z.own _ rfl) ?h4 ?hs4 ?hw4
    case hs4 => rfl
    case hw4 => rw [sw_eq Z.scope]; rfl
    repeat walk_at "ex"
    refine sub_dl (hd.wk hW) ht hn hxk fun bk0 hbk0 => ?_
    repeat walk_at "ex"
    refine ⟨by decide, fun apa hapa => ?_⟩
    repeat walk_at "ex"
    refine ⟨Nat.le_of_ble_eq_true rfl, fun t₀ ht₀ => ?_⟩
    refine ⟨t₀, _, _, rfl, List.mem_cons_self, ?_⟩
    refine seq_next (exs_wk (m' := [("block", .ref bk0), ("apart", .ref apa), ("x", vI x), ("blocks", .ref ba), ("follow", .ref gd)]) (H' := (apa, .list []) :: H') (by walk_at "wkl") (Wk.cons Wk.refl) ?_)
    repeat walk_at "ex"
    walk_at "for"
    repeat walk_at "ex"
    refine ⟨_, _, itr_list hR'.hand (up1 hba), fun j m'' H'' => ∃ bk blk lsap Hb, (blk, lsap.map (·.2)) = ((ls.take j).map (·.2)).foldl blkAdd (f x, []) ∧ WkL m'' [("block", .ref bk), ("apart", .ref apa), ("x", vI x), ("blocks", .ref ba), ("follow", .ref gd)] ∧
      Wk H'' ((apa, .list (refsL lsap)) :: Hb) ∧ (bk, AO.list (iv blk)) ∈ Hb ∧ Wk Hb H' ∧ blk.length ≤ 5 + 5 * j ∧ lsap.length ≤ j ∧ ∀ p ∈ lsap, p ∈ ls,
      ⟨bk0, f x, [], H', rfl, by walk_at "wkl", Wk.refl, hbk0, Wk.refl, by omega, Nat.zero_le _, fun p hp => by cases hp⟩, ?_, ?_, ?_⟩
    · rintro j m'' H'' ⟨bk, blk, lsap, Hb, _, _, hW1, _, hW2, _⟩
      exact hW1.1 _ (up1 (hW2.1 _ hba))
    · rintro j v m'' H'' hv ⟨bk, blk, lsap, Hb, hfo, hm'', hW1, hbk, hW2, hbl, hal, hsub⟩
      unfold refsL at hv
      rw [List.getElem?_map] at hv
      obtain ⟨o, ho, rfl⟩ := Option.map_eq_some_iff.mp hv
      have hol := List.mem_of_getElem? ho
      have hj : j < ls.length := (List.getElem?_eq_some_iff.mp ho).1
      have hfo2 : ((ls.take (j + 1)).map (·.2)).foldl blkAdd (f x, []) = blkAdd (blk, lsap.map (·.2)) o.2 := by
        rw [map_take ho, List.foldl_append, ← hfo]; rfl
      have ho5 := hll o hol
      have hom : (o.1, AO.list (iv o.2)) ∈ Hb := hW2.1 _ (hin o hol)
      refine asg_wk hm'' hW1 ?_
      repeat walk_at "ex"
      walk_at "kpf"
      refine (filter_ints (xs := o.2) (ys := blk) T (n := n + 1) hR' (up1 hom) (up1 hbk) (by walk_at "le") fun D hD => ?_).call
      repeat walk_at "ex"
      refine co_eq_ints (ns := o.2.filter fun x => decide (x ∉ blk)) (ms := o.2) hR'.eqs List.mem_cons_self (up2 hom) ?_
      repeat walk_at "ex"
      refine if_dec (fun hg => ?_) (fun hg => ?_)
      · have heq := of_decide_eq_true hg
        have hst : blkAdd (blk, lsap.map (·.2)) o.2 = (blk, (lsap ++ [o]).map (·.2)) := by
          unfold blkAdd; rw [if_pos heq, List.map_append]; rfl
        repeat walk_at "ex"
        refine gm_list (up1 List.mem_cons_self) PySem.F.slot_list_append PySem.F.type_list_append ?_
        repeat walk_at "ex"
        refine call_append (up1 List.mem_cons_self) (by rw [refsL_len]; walk_at "le") ?_
        refine seq_next (exs_nodup fun hnd => ?_)
        rw [AH.keys_put] at hnd
        rw [put_at1 hnd]
        repeat walk_at "ex"
        refine ⟨bk, blk, lsap ++ [o], Hb, by rw [hfo2, hst], by walk_at "wkl", ?_, hbk, hW2, by omega, by rw [List.length_append]; simp; omega, fun p hp => ?_⟩
        · have : refsL (lsap ++ [o]) = refsL lsap ++ [Value.ref o.1] := by unfold refsL; rw [List.map_append]; rfl
          rw [this]
          exact Wk.cons Wk.refl
        · rcases List.mem_append.mp hp with h1 | h1
          · exact hsub p h1
          · rw [List.mem_singleton.mp h1]; exact hol
      · have heq := of_decide_eq_false hg
        have hst : blkAdd (blk, lsap.map (·.2)) o.2 = (blk ++ o.2.filter (fun x => decide (x ∉ blk)), lsap.map (·.2)) := by
          unfold blkAdd; rw [if_neg heq]
        have hfl := List.length_filter_le (fun x => decide (x ∉ blk)) o.2
        repeat walk_at "ex"
        refine bo_cat (up2 hbk) List.mem_cons_self (by simp only [List.length_map]; omega) fun c hc => ?_
        rw [← iv_append]
        repeat walk_at "ex"
        refine ⟨c, _, lsap, (c, .list (iv (blk ++ o.2.filter fun x => decide (x ∉ blk)))) :: Hb, by rw [hfo2, hst], by walk_at "wkl", ?_, List.mem_cons_self, Wk.cons hW2, ?_, by omega, hsub⟩
        · exact (Wk.keep (Wk.cons Wk.refl)).trans Wk.swap
        · rw [List.length_append]; omega
    · rintro m'' H'' ⟨bk, blk, lsap, Hb, hfo, hm'', hW1, hbk, hW2, hbl, hal, hsub⟩
      rw [show (refsL ls).length = ls.length from refsL_len] at hfo hbl hal
      rw [List.take_length, hls] at hfo
      refine exs_wk hm'' hW1 ?_
      repeat walk_at "ex"
      refine ⟨by decide, fun e he => ?_⟩
      refine co_ne_ints (ns := blk) (ms := []) hR'.eqs (up2 hbk) List.mem_cons_self ?_
      repeat walk_at "ex"
      have hbs := (fun bs (e : (blk, lsap.map (·.2)) = List.foldl blkAdd (f x, []) bs) => (by unfold blkStep; rw [← e] : blkStep f bs x = if blk = [] then bs else lsap.map (·.2) ++ [blk])) _ hfo
      refine if_dec (fun hg => ?_) (fun hg => ?_)
      · have hne : blk ≠ [] := by simpa using hg
        rw [if_neg hne] at hbs
        repeat walk_at "ex"
        refine ⟨Nat.le_of_ble_eq_true rfl, fun g hg' => ?_⟩
        refine bo_cat (ys := [.ref bk]) (up2 List.mem_cons_self) List.mem_cons_self (by rw [refsL_len]; simp; omega) fun c hc => ?_
        have er2 : refsL lsap ++ [Value.ref bk] = refsL (lsap ++ [(bk, blk)]) := by unfold refsL; rw [List.map_append]; rfl
        rw [er2]
        repeat walk_at "ex"
        refine ⟨c, lsap ++ [(bk, blk)], ?_, by walk_at "wkl", List.mem_cons_self, fun p hp => ?_, Wk.cons (Wk.cons (Wk.cons (Wk.cons (hW2.trans hW))))⟩
        · rw [hfold, hbs, List.map_append]; rfl
        · rcases List.mem_append.mp hp with h1 | h1
          · exact up1 (up3 (hW2.1 _ (hin p (hsub p h1))))
          · rw [List.mem_singleton.mp h1]; exact up1 (up3 hbk)
      · have hne : blk = [] := by simpa using hg
        rw [if_pos hne] at hbs
        repeat walk_at "ex"
        refine ⟨ba, ls, ?_, by walk_at "wkl", up2 (hW2.1 _ hba), fun p hp => up2 (hW2.1 _ (hin p hp)), Wk.cons (Wk.cons (hW2.trans hW))⟩
        rw [hfold, hbs, hls]
  · rintro m' H' ⟨ba, ls, hls, hm, hba, hin, hW⟩
    rw [List.length_map, List.take_length] at hls
    refine exs_wk hm Wk.refl ?_
    repeat walk_at "ex"
    exact ⟨_, Wk.refl, h ba ls H' hls hba hin hW⟩
end

section
variable {C : Cfg} {A : Around} {fx : Fx} {m : Lo} {H R : AH} {X : Value → Lo → AH → Prop} {Q : Value → Lo → AH → Prop} {n : Nat}
theorem told_ok {gd : Addr} {kl : List (Int × Addr × List Int)} {ks : List Int} {f : Int → List Int} (T : Top C (K04 C.w.params)) (hR : Room A (n + 1)) (hd : DL H gd kl) (ht : Tab kl ks f) (hn : ks.Nodup)
    (hz : ks.length ≤ 5) (hz2 : ∀ x ∈ ks, (f x).length ≤ 5) (hcl : ∀ x ∈ ks, ∀ y ∈ f x, y ∈ ks)
    (h : ∀ ra ls H', ls.map (·.2) = toldF ks f → (ra, AO.list (refsL ls)) ∈ H' → InL H' ls → Wk H' H → Q (.ref ra) m H') :
    CALLC C A fx (.ref 202) [.ref gd] m H Q X := by
  refine callc_wkp ?_
  refine' call1 hR (fnAt (T := T) ?ho ?hcode ?hco ?hgen ?hk) "follow" ?b1 ?b2 ?body
  walk_at "fn"
  intro A' fx' hR' Z
  obtain ⟨ep, hep⟩ := hd.1
  repeat walk_at "ex"
  refine' turns_dc (us := ks) (tv := vI) ?hb1 rfl (itr_tab hR'.hand hep ht) (fun H hW => hW.1 _ hep) (by walk_at "le") (fun y => y) (fun y => vI y) (by rw [List.map_id']; exact hn) ?turn1 ?fin1 Z.scope
  case hb1 => rfl
  case turn1 =>
    intro fx2 Z2 y hy
    repeat walk_at "ex"
    refine ⟨rfl, ?_⟩
    repeat walk_at "ex"
    exact ⟨rfl, by walk_at "wkl", Wk.refl⟩
  case fin1 =>
    intro ld ep1 hld
    have e0 : (ks.map fun y => (y, vI y)) = kvF ks (lTurns ks f 0) := rfl
    rw [e0]
    repeat walk_at "ex"
    walk_at "for"
    repeat walk_at "ex"
    refine ⟨_, _, itr_tab hR'.hand (up1 hep) ht, fun i m' H' => ∃ ep', WkL m' [("least", .ref ld), ("follow", .ref gd)] ∧ Wk H' ((ld, .dict (kvF ks (lTurns ks f i)) ep') :: H), ⟨ep1, by walk_at "wkl", Wk.refl⟩, ?_, ?_, ?_⟩
    · rintro i m' H' ⟨_, _, hW⟩
      exact hW.1 _ (up1 hep)
    · rintro i v m' H' hv ⟨ep2, hm, hW⟩
      refine asg_wk hm hW ?_
      repeat walk_at "ex"
      walk_at "for"
      repeat walk_at "ex"
      refine ⟨_, _, itr_tab hR'.hand (up1 hep) ht, fun j m' H' => ∃ ep', WkL m' [("least", .ref ld), ("follow", .ref gd)] ∧ Wk H' ((ld, .dict (kvF ks ((ks.take j).foldl (lStep f) (lTurns ks f i))) ep') :: H), ⟨ep2, by walk_at "wkl", Wk.refl⟩, ?_, ?_, ?_⟩
      · rintro j m' H' ⟨_, _, hW⟩
        exact hW.1 _ (up1 hep)
      · rintro j v m' H' hv ⟨ep3, hm, hW⟩
        rw [List.getElem?_map] at hv
        obtain ⟨x, hx, rfl⟩ := Option.map_eq_some_iff.mp hv
        have hxk := List.mem_of_getElem? hx
        have hfold := fold_take (lStep f) (lTurns ks f i) hx
        generalize (ks.take j).foldl (lStep f) (lTurns ks f i) = g at hfold hW
        have hfx := hz2 x hxk
        refine asg_wk hm hW ?_
        repeat walk_at "ex"
        refine ⟨Nat.le_of_ble_eq_true rfl, fun a ha => ?_⟩
        repeat walk_at "ex"
        refine sub_dl (hd.wk (Wk.cons (Wk.cons Wk.refl))) ht hn hxk fun l hl => ?_
        refine' turns_lc (us := f x) (tv := vI) ?hb2 (itr_list hR'.hand hl) (fun H hW => hW.1 _ hl) (by walk_at "le") (fun _ => true) (fun y => vI (g y)) ?turn2 ?fin2 Z.scope
        case hb2 => rfl
        case turn2 =>
          intro fx3 Z3 y hy
          repeat walk_at "ex"
          refine ⟨rfl, if_yes ?_⟩
          repeat walk_at "ex"
          refine sub_dict (up1 List.mem_cons_self) (dval_kvF hn (hcl x hxk y hy)) ?_
          exact ⟨rfl, by walk_at "wkl", Wk.refl⟩
        case fin2 =>
          intro b hb
          rw [List.filter_eq_self.mpr fun _ _ => rfl]
          repeat walk_at "ex"
          refine bo_cat (xs := [vI 9]) (up1 List.mem_cons_self) List.mem_cons_self (by simp only [List.length_map, List.length_cons, List.length_nil]; omega) fun c hc => ?_
          have e1 : [vI 9] ++ (f x).map (fun y => vI (g y)) = iv ((9 : Int) :: (f x).map g) := by unfold iv; rw [List.map_cons, List.map_map]; rfl
          rw [e1]
          repeat walk_at "ex"
          refine call_min hR'.hand List.mem_cons_self (by simp) fun M h1 h2 => ?_
          have hM := mn9_is h1 h2
          repeat walk_at "ex"
          refine ex_wk (m' := [("name", vI M), ("x", vI x), ("least", .ref ld), ("follow", .ref gd)]) (H' := (ld, .dict (kvF ks g) ep3) :: H) (by walk_at "wkl") (Wk.cons (Wk.cons (Wk.cons Wk.refl))) ?_
          walk_at "for"
          repeat walk_at "ex"
          refine sub_dl (hd.wk (Wk.cons Wk.refl)) ht hn hxk fun l hl => ?_
          refine ⟨_, _, itr_list hR'.hand hl, fun k m' H' => ∃ ep', WkL m' [("name", vI M), ("x", vI x), ("least", .ref ld), ("follow", .ref gd)] ∧ Wk H' ((ld, .dict (kvF ks (fun z => if z ∈ (f x).take k then M else g z)) ep') :: H), ⟨ep3, by walk_at "wkl", ?_⟩, ?_, ?_, ?_⟩
          · rw [show kvF ks (fun z => if z ∈ (f x).take 0 then M else g z) = kvF ks g from kvF_congr fun z _ => by simp]
            exact Wk.refl
          · rintro k m' H' ⟨_, _, hW⟩
            refine hW.1 _ ?_
            rcases List.mem_cons.mp hl with e | hl
            · cases e
            · exact up1 hl
          · rintro k v m' H' hv ⟨ep4, hm, hW⟩
            rw [List.getElem?_map] at hv
            obtain ⟨y, hy, rfl⟩ := Option.map_eq_some_iff.mp hv
            have hyk := hcl x hxk y (List.mem_of_getElem? hy)
            refine asg_wk hm hW ?_
            repeat walk_at "ex"
            refine si_nodup fun hnd => si_dict List.mem_cons_self (by unfold kvF; rw [List.length_map]; omega) fun ep5 => ?_
            rw [stored_kvF hyk, put_at0 hnd]
            repeat walk_at "ex"
            refine ⟨ep5, by walk_at "wkl", ?_⟩
            rw [show kvF ks (fun z => if z ∈ (f x).take (k + 1) then M else g z) = kvF ks (fun z => if z = y then M else if z ∈ (f x).take k then M else g z) from kvF_congr fun z _ => ?_]
            · exact Wk.refl
            · rw [List.take_add_one, hy]
              by_cases e : z = y
              · simp [e]
              · simp [e]
          · rintro m' H' ⟨ep4, hm, hW⟩
            rw [List.length_map, List.take_length] at hW
            refine exs_wk hm hW ?_
            repeat walk_at "ex"
            refine ⟨ep4, by walk_at "wkl", ?_⟩
            rw [hfold, show kvF ks (lStep f g x) = kvF ks (fun z => if z ∈ f x then M else g z) from kvF_congr fun z _ => by unfold lStep; rw [hM]]
            exact Wk.refl
      · rintro m' H' ⟨ep3, hm, hW⟩
        rw [List.length_map, List.take_length] at hW
        refine exs_wk hm hW ?_
        repeat walk_at "ex"
        exact ⟨ep3, by walk_at "wkl", Wk.refl⟩
    · rintro m' H' ⟨ep2, hm, hW⟩
      rw [List.length_map] at hW
      refine exs_wk hm hW ?_
      have eL : lTurns ks f ks.length = leastF ks f := rfl
      rw [eL]
      clear hW hm
      repeat walk_at "ex"
      refine' turns_lc (us := ks) (tv := vI) ?hb3 (itr_tab hR'.hand (up1 hep) ht) (fun H hW => hW.1 _ (up1 hep)) (by walk_at "le") (fun y => !decide ((ks.filter fun x => decide (y ∈ f x)) = [])) vI ?turn3 ?fin3 Z.scope
      case hb3 => rfl
      case turn3 =>
        intro fx3 Z3 y hy
        repeat walk_at "ex"
        refine' turns_lc (us := ks) (tv := vI) ?hb4 (itr_tab hR'.hand (up1 hep) ht) (fun H hW => hW.1 _ (up1 hep)) (by walk_at "le") (fun x => decide (y ∈ f x)) vI ?turn4 ?fin4 Z3.scope
        case hb4 => rfl
        case turn4 =>
          intro fx4 Z4 x hx
          repeat walk_at "ex"
          refine sub_dl (hd.wk (Wk.cons Wk.refl)) ht hn hx fun l hl => ?_
          refine co_in_list hl ?_
          repeat walk_at "ex"
          walk_at "pick"
        case fin4 =>
          intro a ha
          repeat walk_at "ex"
          refine ⟨by decide, fun b hb => ?_⟩
          refine co_ne_ints (ns := ks.filter fun x => decide (y ∈ f x)) (ms := []) hR'.eqs (up1 List.mem_cons_self) List.mem_cons_self ?_
          repeat walk_at "ex"
          walk_at "pick"
      case fin3 =>
        intro bh hbh
        rw [show (ks.filter fun y => !decide ((ks.filter fun x => decide (y ∈ f x)) = [])).map vI = iv (behF ks f) from rfl]
        have hbl : (behF ks f).length ≤ 5 := Nat.le_trans (List.length_filter_le _ _) hz
        repeat walk_at "ex"
        refine' turns_lcl (us := ks) (tv := vI) ?hb5 rfl (itr_tab hR'.hand (up2 hep) ht) (fun H hW => hW.1 _ (up2 hep)) (by walk_at "le") (rowF ks f) ?turn5 ?fin5 Z.scope
        case hb5 => rfl
        case turn5 =>
          intro fx3 Z3 nm hnm H₂ hW₂
          repeat walk_at "ex"
          refine' turns_lc (us := behF ks f) (tv := vI) ?hb6 (itr_list hR'.hand (hW₂.1 _ List.mem_cons_self)) (fun H hW => hW.1 _ (hW₂.1 _ List.mem_cons_self)) (by walk_at "le") (fun y => leastF ks f y == nm) vI ?turn6 ?fin6 Z3.scope
          case hb6 => rfl
          case turn6 =>
            intro fx4 Z4 y hy
            have hyk := (beh_mem.mp hy).1
            repeat walk_at "ex"
            refine sub_dict (hW₂.1 _ (up1 List.mem_cons_self)) (dval_kvF hn hyk) ?_
            repeat walk_at "ex"
            walk_at "pick"
          case fin6 =>
            intro a ha
            exact ⟨a, rfl, by walk_at "wkl", Wk.refl⟩
        case fin5 =>
          intro ra ls hra hls
          have hll : ls.length ≤ 5 := by
            have := congrArg List.length hls
            simp only [List.length_map] at this
            omega
          have hlr : ∀ p ∈ ls, p.2.length ≤ 5 := fun p hp => by
            have : p.2 ∈ ls.map (·.2) := List.mem_map_of_mem hp
            rw [hls] at this
            obtain ⟨nm, _, e⟩ := List.mem_map.mp this
            rw [← e]
            exact Nat.le_trans (List.length_filter_le _ _) hbl
          have hin : InL (LC ls ++ (bh, .list (iv (behF ks f))) :: (ld, .dict (kvF ks (leastF ks f)) ep2) :: H) ls := fun p hp => List.mem_append_left _ (List.mem_map.mpr ⟨p, hp, rfl⟩)
          repeat walk_at "ex"
          refine' turns_lc (us := ls) (tv := fun p => Value.ref p.1) ?hb7 (itr_list hR'.hand List.mem_cons_self) (fun H hW => hW.1 _ List.mem_cons_self) (by walk_at "le") (fun p => !decide (p.2 = [])) (fun p => Value.ref p.1) ?turn7 ?fin7 Z.scope
          case hb7 => rfl
          case turn7 =>
            intro fx4 Z4 p hp
            repeat walk_at "ex"
            refine ⟨by decide, fun b hb => ?_⟩
            refine co_ne_ints (ns := p.2) (ms := []) hR'.eqs (up2 (hin p hp)) List.mem_cons_self ?_
            repeat walk_at "ex"
            walk_at "pick"
          case fin7 =>
            intro a ha
            repeat walk_at "ex"
            refine ⟨_, Wk.refl, h a (ls.filter fun p => !decide (p.2 = [])) _ ?_ List.mem_cons_self (fun p hp => up2 (hin p (List.mem_filter.mp hp).1)) (Wk.cons (Wk.cons ((Wk.sub (List.sublist_append_right _ _)).trans (Wk.cons (Wk.cons Wk.refl)))))⟩
            unfold toldF
            rw [← hls, List.filter_map]
            rfl
end

section
variable {C : Cfg} {A : Around} {fx : Fx} {m : Lo} {H R : AH} {X : Value → Lo → AH → Prop} {Q : Value → Lo → AH → Prop} {n : Nat}
theorem depths_ok {gd : Addr} {kl : List (Int × Addr × List Int)} {ks : List Int} {ahead : Int → List Int} (T : Top C (K04 C.w.params)) (hR : Room A (n + 1)) (hd : DL H gd kl) (ht : Tab kl ks ahead) (hn : ks.Nodup)
    (hz : ks.length ≤ 5) (hz2 : ∀ x ∈ ks, (ahead x).length ≤ 5) (hcl : ∀ x ∈ ks, ∀ y ∈ ahead x, y ∈ ks)
    (h : ∀ dd ep, Q (.ref dd) m ((dd, .dict (kvF ks (fun x => (dep ahead ks.length x : Nat))) ep) :: H)) :
    CALLC C A fx (.ref 207) [.ref gd] m H Q X := by
  refine callc_wkp ?_
  refine' call1 hR (fnAt (T := T) ?ho ?hcode ?hco ?hgen ?hk) "ahead" ?b1 ?b2 ?body
  walk_at "fn"
  intro A' fx' hR' Z
  obtain ⟨ep, hep⟩ := hd.1
  repeat walk_at "ex"
  refine' turns_dc (us := ks) (tv := vI) ?hb1 rfl (itr_tab hR'.hand hep ht) (fun H hW => hW.1 _ hep) (by walk_at "le") (fun y => y) (fun y => vI 0) (by rw [List.map_id']; exact hn) ?turn1 ?fin1 Z.scope
  case hb1 => rfl
  case turn1 =>
    intro fx2 Z2 y hy
    repeat walk_at "ex"
    refine ⟨rfl, ?_⟩
    repeat walk_at "ex"
    exact ⟨rfl, by walk_at "wkl", Wk.refl⟩
  case fin1 =>
    intro dd ep1 hdd
    have e0 : (ks.map fun y => (y, vI 0)) = kvF ks (fun x => (dep ahead 0 x : Nat)) := rfl
    rw [e0]
    repeat walk_at "ex"
    walk_at "for"
    repeat walk_at "ex"
    refine ⟨_, _, itr_tab hR'.hand (up1 hep) ht, fun i m' H' => ∃ dd ep', WkL m' [("depth", .ref dd), ("ahead", .ref gd)] ∧ Wk H' ((dd, .dict (kvF ks (fun x => (dep ahead i x : Nat))) ep') :: H), ⟨dd, ep1, by walk_at "wkl", Wk.refl⟩, ?_, ?_, ?_⟩
    · rintro i m' H' ⟨_, _, _, hW⟩
      exact hW.1 _ (up1 hep)
    · rintro i v m' H' hv ⟨dd, ep2, hm, hW⟩
      refine asg_wk hm hW ?_
      repeat walk_at "ex"
      have hep' : (gd, AO.dict (kvL kl) ep) ∈ (dd, .dict (kvF ks (fun x => (dep ahead i x : Nat))) ep2) :: H := up1 hep
      have hd' : DL ((dd, .dict (kvF ks (fun x => (dep ahead i x : Nat))) ep2) :: H) gd kl := hd.wk (Wk.cons Wk.refl)
      have hmd : (dd, AO.dict (kvF ks (fun x => (dep ahead i x : Nat))) ep2) ∈ (dd, .dict (kvF ks (fun x => (dep ahead i x : Nat))) ep2) :: H := List.mem_cons_self
      refine' turns_dc (us := ks) (tv := vI) ?hb2 rfl (itr_tab hR'.hand hep' ht) (fun H hW => hW.1 _ hep') (by walk_at "le") (fun y => y) (fun y => vI (dep ahead (i + 1) y : Nat)) (by rw [List.map_id']; exact hn) ?turn2 ?fin2 Z.scope
      case hb2 => rfl
      case turn2 =>
        intro fx2 Z2 x hx
        have hxl := hz2 x hx
        repeat walk_at "ex"
        refine ⟨rfl, ?_⟩
        repeat walk_at "ex"
        refine ⟨by decide, fun a ha => ?_⟩
        repeat walk_at "ex"
        refine sub_dl (hd'.wk (Wk.cons Wk.refl)) ht hn hx fun l hl => ?_
        refine' turns_lc (us := ahead x) (tv := vI) ?hb3 (itr_list hR'.hand hl) (fun H hW => hW.1 _ hl) (by walk_at "le") (fun _ => true) (fun z => vI ((dep ahead i z : Nat) + 1)) ?turn3 ?fin3 Z2.scope
        case hb3 => rfl
        case turn3 =>
          intro fx3 Z3 z hz3
          repeat walk_at "ex"
          refine ⟨rfl, if_yes ?_⟩
          repeat walk_at "ex"
          refine sub_dict (up1 hmd) (dval_kvF hn (hcl x hx z hz3)) ?_
          repeat walk_at "ex"
          exact ⟨rfl, by walk_at "wkl", Wk.refl⟩
        case fin3 =>
          intro b hb
          rw [List.filter_eq_self.mpr fun _ _ => rfl]
          repeat walk_at "ex"
          refine bo_cat (xs := [vI 0]) (up1 List.mem_cons_self) List.mem_cons_self (by simp only [List.length_map, List.length_cons, List.length_nil]; omega) fun c hc => ?_
          have e1 : [vI 0] ++ (ahead x).map (fun z => vI ((dep ahead i z : Nat) + 1)) = iv ((0 : Int) :: ((ahead x).map fun z => dep ahead i z + 1).map fun (a : Nat) => (a : Int)) := by
            unfold iv; rw [List.map_cons, List.map_map, List.map_map]; rfl
          rw [e1]
          repeat walk_at "ex"
          refine call_max hR'.hand List.mem_cons_self (by simp) fun M h1 h2 => ?_
          have hM := mx0_is h1 h2
          exact ⟨by rw [hM]; rfl, by walk_at "wkl", by walk_at "wk"⟩
      case fin2 =>
        intro d2 ep3 hd2
        have e2 : (ks.map fun y => (y, vI (dep ahead (i + 1) y : Nat))) = kvF ks (fun x => (dep ahead (i + 1) x : Nat)) := rfl
        rw [e2]
        repeat walk_at "ex"
        exact ⟨d2, ep3, by walk_at "wkl", Wk.keep (Wk.cons Wk.refl)⟩
    · rintro m' H' ⟨dd, ep2, hm, hW⟩
      rw [List.length_map] at hW
      refine exs_wk hm hW ?_
      repeat walk_at "ex"
      exact ⟨_, Wk.refl, h dd ep2⟩
end

noncomputable def stmtsF : FuncBody → List Stmt
  | .stmts b => b
  | _ => []
section
variable {dr : Int} {sz : Nat} {x y : Int}
theorem small_mem (h : y ∈ folSmall dr sz x) : 0 ≤ y ∧ y ≤ x := by
  unfold folSmall at h
  have := upto_mem.mp (List.mem_filter.mp h).1
  omega
theorem great_mem (h : y ∈ folGreat dr sz x) : x < y ∧ y ∈ upto sz := by
  unfold folGreat at h
  obtain ⟨h1, h2⟩ := List.mem_filter.mp h
  rw [Bool.and_eq_true] at h2
  exact ⟨of_decide_eq_true h2.1, h1⟩
theorem folRow_in (hx : x ∈ upto sz) (h : y ∈ folRow dr sz x) : y ∈ upto sz := by
  have hx0 := upto_mem.mp hx
  unfold folRow at h
  rcases List.mem_append.mp h with h | h
  · have := small_mem h
    exact upto_mem.mpr (by walk_at "le")
  · exact (great_mem h).2
theorem folRow_nd : (folRow dr sz x).Nodup := by
  unfold folRow
  rw [List.nodup_append]
  refine ⟨upto_nd.sublist List.filter_sublist, upto_nd.sublist List.filter_sublist, fun a ha b hb e => ?_⟩
  have h1 := small_mem ha
  have h2 := (great_mem hb).1
  omega
end
theorem refsL_get {ls : List (Addr × List Int)} {k : Nat} (h : k < ls.length) : (refsL ls)[k]? = some (.ref (ls.getD k (0, [])).1) := by
  unfold refsL
  rw [List.getElem?_map, List.getElem?_eq_getElem h]
  simp [h]
noncomputable def firstF (ls : List (Addr × List Int)) (y : Int) : Int := (((upto ls.length).filter fun (k : Int) => decide (y ∈ (ls.getD k.toNat (0, [])).2)) ++ [-1]).headD 0
noncomputable def lastF (fst : Int → Int) (f : Int → List Int) (x : Int) : Int := ((f x).map fst ++ [-2]).headD 0
set_option maxHeartbeats 16000000 in
theorem law_body {C : Cfg} {A' : Around} {fx' : Fx} {l : Addr} {ns : List Int} (T' : Top C (K04 C.w.params)) (hR : Room A' 100) (hb : BL C l (iv ns)) (hlen : ns.length ≤ 63) (Z : Sc fx' k04s21 (k04s21).names) :
    EXS C A' fx' (stmtsF k04b21) [("script", .ref l)] [] (fun fl _ _ => retV fl = .bool true) noX := by
  conv => arg 4; whnf
  repeat walk_at "ex"
  refine' ex_assign ?h ?hs ?hw
  case hs => rfl
  case hw => rw [sw_eq Z.scope]; rfl
  repeat walk_at "ex"
  refine ⟨some 1, some 2, none, rfl, rfl, rfl, rfl, by decide, by rw [List.length_map]; omega, fun a₁ ha₁ => ?_⟩
  have hpk : (pickL (iv ns) (some 1) (some 2) none).length ≤ 1 := pick_len (by decide) (by decide)
  repeat walk_at "ex"
  refine call_len_l List.mem_cons_self (by walk_at "le") ?_
  repeat walk_at "ex"
  refine' turns_lc (us := ns) (tv := vI) ?hb0 (itr_base hR.hand hb) (fun _ _ => trivial) (by walk_at "le") (fun _ => true) (fun x => vI (x.fmod 1000)) ?turn0 ?fin0 Z.scope
  case hb0 => rfl
  case turn0 =>
    intro fx2 Z2 x hx
    repeat walk_at "ex"
    refine ⟨rfl, if_yes ?_⟩
    repeat walk_at "ex"
    refine bo_mod (by decide) ?_
    exact ⟨rfl, by walk_at "wkl", Wk.refl⟩
  case fin0 =>
    intro a₂ ha₂
    rw [List.filter_eq_self.mpr fun _ _ => rfl, show ns.map (fun x => vI (x.fmod 1000)) = iv (ns.map fun x => x.fmod 1000) from by unfold iv; rw [List.map_map]; rfl]
    repeat walk_at "ex"
    refine call_sum hR.hand List.mem_cons_self ?_
    repeat walk_at "ex"
    refine ⟨Nat.le_of_ble_eq_true rfl, fun a₃ ha₃ => ?_⟩
    obtain ⟨sz, hsz, hsz5⟩ : ∃ sz : Nat, (4 : Int) + ((pickL (iv ns) (some 1) (some 2) none).length : Int) = (sz : Int) ∧ sz ≤ 5 := ⟨4 + (pickL (iv ns) (some 1) (some 2) none).length, by push_cast; rfl, by omega⟩
    rw [hsz]
    generalize (ns.map fun x => x.fmod 1000).sum = dr
    refine asgs_wk (m' := []) (H' := [(a₃, .tup [vI sz, vI dr])]) (by walk_at "wkl") (Wk.keep (Wk.cons (Wk.cons Wk.refl))) ?_
    refine' asgs_one ?ha ?he
    case he => rfl
    refine' asg_tup2 hR.hand List.mem_cons_self ?ha2 ?he2
    case he2 => rfl
    clear hb hpk hsz ha₁ ha₂ ha₃ hlen
    repeat walk_at "ex"
    walk_at "kpf"
    have hcl : ∀ x ∈ upto sz, ∀ y ∈ folRow dr sz x, y ∈ upto sz := fun x hx y hy => folRow_in hx hy
    have hfn : ∀ x ∈ upto sz, (folRow dr sz x).Nodup := fun x _ => folRow_nd
    have h9 : ∀ x ∈ upto sz, ∀ y ∈ folRow dr sz x, y ≤ 9 := fun x hx y hy => by have := upto_mem.mp (hcl x hx y hy); omega
    have hz2 : ∀ x ∈ upto sz, (folRow dr sz x).length ≤ 5 := fun x hx => by have := nd_len (hfn x hx) (hcl x hx); rw [upto_len] at this; omega
    refine (follow_ok (dr := dr) (sz := sz) T' (n := 50) (hR.less (Nat.le_of_ble_eq_true rfl)) hsz5 fun d ep kl hdn ht => ?_).call
    generalize folRow dr sz = f at *
    have hkz : (upto sz).length ≤ 5 := by rw [upto_len]; exact hsz5
    obtain ⟨H1, hH1, hd1⟩ : ∃ H1 : AH, H1 = (d, .dict (kvL kl) ep) :: (LC (kl.map (·.2)) ++ [(a₃, .tup [vI sz, vI dr])]) ∧ DL H1 d kl := ⟨_, rfl, DL.here⟩
    rw [← hH1]
    clear hH1 hdn
    repeat walk_at "ex"
    walk_at "kpf"
    refine (blocks_ok T' (n := 50) (hR.less (Nat.le_of_ble_eq_true rfl)) hd1 ht upto_nd hkz hfn hcl fun ba ls H2 hls hba hin hW2 => ?_).call
    have hBI := blocks_BI hfn
    rw [← hls] at hBI
    have hlsl : ls.length ≤ 5 := by have := hBI.len hcl; rw [List.length_map] at this; omega
    have hlb : ∀ p ∈ ls, p.2.length ≤ 5 := fun p hp => Nat.le_trans (hBI.blen hcl p.2 (List.mem_map_of_mem hp)) hkz
    have hd2 := hd1.wk hW2
    repeat walk_at "ex"
    refine' turns_lcl (us := ls) (tv := fun p => Value.ref p.1) ?hb1 rfl (itr_list hR.hand hba) (fun H hW => hW.1 _ hba) (by walk_at "le") (fun p => srt p.2) ?turn1 ?fin1 Z.scope
    case hb1 => rfl
    case turn1 =>
      intro fx3 Z3 p hp H₂ hW₂
      repeat walk_at "ex"
      refine call_sorted (hW₂.1 _ (hin p hp)) (by have := hlb p hp; walk_at "le") fun a K' ha hpm hle => ?_
      rw [srt_uniq hpm hle]
      exact ⟨a, rfl, by walk_at "wkl", Wk.refl⟩
    case fin1 =>
      intro la ls2 hla hls2
      have hin2 : InL (LC ls2 ++ H2) ls2 := fun p hp => List.mem_append_left _ (List.mem_map.mpr ⟨p, hp, rfl⟩)
      have els2 : ls2.map (·.2) = (ls.map (·.2)).map srt := by rw [hls2, List.map_map]; rfl
      have hsh := hBI.sheads
      rw [← els2] at hsh
      have hl2 : ls2.length ≤ 5 := by have := congrArg List.length els2; simp only [List.length_map] at this; omega
      repeat walk_at "ex"
      refine call_sorted_ll (ls := ls2) (by have := hR.eq2; omega) List.mem_cons_self (fun p hp => up1 (hin2 p hp)) hl2 (fun p hp => hsh.2 _ (List.mem_map_of_mem hp)) (by rw [List.map_map] at hsh; exact hsh.1) fun sa ls3 hsa3 hp3 ho3 => ?_
      have e3 : ls3.map (·.2) = toldF (upto sz) f := told_eq hBI upto_le upto_nd h9 hcl (by rw [← els2]; exact hp3.map _) ho3
      have hin3 : InL (LC ls2 ++ H2) ls3 := hin2.perm hp3
      repeat walk_at "ex"
      walk_at "kpf"
      refine (told_ok T' (n := 50) (hR.less (Nat.le_of_ble_eq_true rfl)) (hd2.wk (Wk.cons (Wk.cons (Wk.sub (List.sublist_append_right _ _))))) ht upto_nd hkz hz2 hcl fun ra ls4 H3 hls4 hra hin4 hW3 => ?_).call
      have hm3 : InL H3 ls3 := fun p hp => hW3.1 _ (up2 (hin3 p hp))
      refine co_ne_dat hR.eqs (DAT.list (hW3.1 _ List.mem_cons_self) (DATS.refsL hm3)) (DAT.list hra (DATS.refsL hin4)) (shaped_lists _) (shaped_lists _) ?_
      rw [eqv_lists, e3, hls4, decide_eq_true rfl]
      have hW32 : Wk H3 H2 := hW3.trans (Wk.cons (Wk.cons (Wk.sub (List.sublist_append_right _ _))))
      have hd3 := hd2.wk hW32
      have hba3 := hW32.1 _ hba
      have hin3b := hin.wk hW32
      clear hm3 hin3 hin4 hra hls4 hp3 ho3 hsa3 e3 hsh hin2 els2 hls2 hla hl2 h9
      repeat walk_at "ex"
      obtain ⟨ep3, hep3⟩ := hd3.1
      refine' turns_dc (us := upto sz) (tv := vI) ?hb2 rfl (itr_tab hR.hand hep3 ht) (fun H hW => hW.1 _ hep3) (by walk_at "le") (fun y => y) (fun y => vI (firstF ls y)) (by rw [List.map_id']; exact upto_nd) ?turn2 ?fin2 Z.scope
      case hb2 => rfl
      case turn2 =>
        intro fx2 Z2 y hy
        repeat walk_at "ex"
        refine ⟨rfl, ?_⟩
        repeat walk_at "ex"
        refine call_len_l hba3 (by rw [refsL_len]; walk_at "le") ?_
        rw [refsL_len]
        repeat walk_at "ex"
        refine call_range fun r hr => ?_
        refine' turns_lc (us := upto ls.length) (tv := vI) ?hb3 (itr_upto hR.hand (by walk_at "le") List.mem_cons_self) (fun H hW => trivial) (by rw [upto_len]; walk_at "le") (fun k => decide (y ∈ (ls.getD k.toNat (0, [])).2)) vI ?turn3 ?fin3 Z2.scope
        case hb3 => rfl
        case turn3 =>
          intro fx3 Z3 k hk
          have hk0 := upto_mem.mp hk
          repeat walk_at "ex"
          refine sub_list (up1 hba3) hk0.1 (by walk_at "le") (refsL_get (by walk_at "le")) ?_
          refine co_in_list (up1 (hin3b _ (getD_mem' (by walk_at "le")))) ?_
          repeat walk_at "ex"
          walk_at "pick"
        case fin3 =>
          intro a ha
          have hfl := List.length_filter_le (fun k => decide (y ∈ (ls.getD k.toNat (0, [])).2)) (upto ls.length)
          rw [upto_len] at hfl
          repeat walk_at "ex"
          refine ⟨Nat.le_of_ble_eq_true rfl, fun b hb => ?_⟩
          refine bo_cat (ys := [vI (-1)]) (up1 List.mem_cons_self) List.mem_cons_self (by simp only [List.length_map, List.length_cons, List.length_nil]; omega) fun c hc => ?_
          have e1 : ((upto ls.length).filter fun k => decide (y ∈ (ls.getD k.toNat (0, [])).2)).map vI ++ [vI (-1)] = iv (((upto ls.length).filter fun k => decide (y ∈ (ls.getD k.toNat (0, [])).2)) ++ [-1]) := by rw [iv_append]; rfl
          rw [e1]
          repeat walk_at "ex"
          refine sub_list List.mem_cons_self (by decide) (by decide) head0 ?_
          exact ⟨rfl, by walk_at "wkl", by walk_at "wk"⟩
      case fin2 =>
        intro fd ep4 hfd
        have e2 : ((upto sz).map fun y => (y, vI (firstF ls y))) = kvF (upto sz) (firstF ls) := rfl
        rw [e2]
        clear e2
        generalize firstF ls = fst
        obtain ⟨H4, hH4, hW4, hmf⟩ : ∃ H4 : AH, H4 = (fd, AO.dict (kvF (upto sz) fst) ep4) :: H3 ∧ Wk H4 H3 ∧ (fd, AO.dict (kvF (upto sz) fst) ep4) ∈ H4 := ⟨_, rfl, Wk.cons Wk.refl, List.mem_cons_self⟩
        rw [← hH4]
        clear hH4 hfd hin3b hba3
        have hd4 := hd3.wk hW4
        have hep4 := hW4.1 _ hep3
        repeat walk_at "ex"
        refine' turns_dc (us := upto sz) (tv := vI) ?hb4 rfl (itr_tab hR.hand hep4 ht) (fun H hW => hW.1 _ hep4) (by walk_at "le") (fun y => y) (fun x => vI (lastF fst f x)) (by rw [List.map_id']; exact upto_nd) ?turn4 ?fin4 Z.scope
        case hb4 => rfl
        case turn4 =>
          intro fx2 Z2 x hx
          have hxl := hz2 x hx
          repeat walk_at "ex"
          refine ⟨rfl, ?_⟩
          repeat walk_at "ex"
          refine sub_dl hd4 ht upto_nd hx fun l hl => ?_
          refine' turns_lc (us := f x) (tv := vI) ?hb5 (itr_list hR.hand hl) (fun H hW => hW.1 _ hl) (by walk_at "le") (fun _ => true) (fun y => vI (fst y)) ?turn5 ?fin5 Z2.scope
          case hb5 => rfl
          case turn5 =>
            intro fx3 Z3 y hy
            repeat walk_at "ex"
            refine ⟨rfl, if_yes ?_⟩
            repeat walk_at "ex"
            refine sub_dict hmf (dval_kvF upto_nd (hcl x hx y hy)) ?_
            exact ⟨rfl, by walk_at "wkl", Wk.refl⟩
          case fin5 =>
            intro a ha
            rw [List.filter_eq_self.mpr fun _ _ => rfl]
            repeat walk_at "ex"
            refine ⟨Nat.le_of_ble_eq_true rfl, fun b hb => ?_⟩
            refine bo_cat (ys := [vI (-2)]) (up1 List.mem_cons_self) List.mem_cons_self (by simp only [List.length_map, List.length_cons, List.length_nil]; omega) fun c hc => ?_
            have e1 : (f x).map (fun y => vI (fst y)) ++ [vI (-2)] = iv ((f x).map fst ++ [-2]) := by rw [iv_append]; unfold iv; rw [List.map_map]; rfl
            rw [e1]
            repeat walk_at "ex"
            refine sub_list List.mem_cons_self (by decide) (by decide) head0 ?_
            exact ⟨rfl, by walk_at "wkl", by walk_at "wk"⟩
        case fin4 =>
          intro lad ep5 hlad
          have e2 : ((upto sz).map fun x => (x, vI (lastF fst f x))) = kvF (upto sz) (lastF fst f) := rfl
          rw [e2]
          clear e2
          generalize lastF fst f = lst
          obtain ⟨H5, hH5, hW5, hml⟩ : ∃ H5 : AH, H5 = (lad, AO.dict (kvF (upto sz) lst) ep5) :: H4 ∧ Wk H5 H4 ∧ (lad, AO.dict (kvF (upto sz) lst) ep5) ∈ H5 := ⟨_, rfl, Wk.cons Wk.refl, List.mem_cons_self⟩
          rw [← hH5]
          clear hH5 hlad
          have hmf5 := hW5.1 _ hmf
          have hep5 := hW5.1 _ hep4
          repeat walk_at "ex"
          refine' turns_dcl (f := aheadF (upto sz) fst lst) ?hb6 rfl (itr_tab hR.hand hep5 ht) (fun H hW => hW.1 _ hep5) (by walk_at "le") upto_nd ?turn6 ?fin6 Z.scope
          case hb6 => rfl
          case turn6 =>
            intro fx2 Z2 x hx H₂ hW₂
            repeat walk_at "ex"
            refine ⟨rfl, ?_⟩
            repeat walk_at "ex"
            refine' turns_lc (us := upto sz) (tv := vI) ?hb7 (itr_tab hR.hand (hW₂.1 _ hep5) ht) (fun H hW => hW.1 _ (hW₂.1 _ hep5)) (by walk_at "le") (fun z => lst z == fst x) vI ?turn7 ?fin7 Z2.scope
            case hb7 => rfl
            case turn7 =>
              intro fx3 Z3 z hz
              repeat walk_at "ex"
              refine sub_dict (hW₂.1 _ hml) (dval_kvF upto_nd hz) ?_
              repeat walk_at "ex"
              refine sub_dict (hW₂.1 _ hmf5) (dval_kvF upto_nd hx) ?_
              repeat walk_at "ex"
              walk_at "pick"
            case fin7 =>
              intro a ha
              exact ⟨a, rfl, by walk_at "wkl", Wk.refl⟩
          case fin6 =>
            intro ad ep6 kl2 had hkl2
            have ht2 : Tab kl2 (upto sz) (aheadF (upto sz) fst lst) := hkl2
            obtain ⟨H6, hH6, hW6, hd6⟩ : ∃ H6 : AH, H6 = (ad, .dict (kvL kl2) ep6) :: (LC (kl2.map (·.2)) ++ H5) ∧ Wk H6 H5 ∧ DL H6 ad kl2 := ⟨_, rfl, Wk.cons (Wk.sub (List.sublist_append_right _ _)), DL.here⟩
            repeat walk_at "ex"
            rw [← hH6]
            clear hH6 had hkl2
            have hmf6 := hW6.1 _ hmf5
            have hml6 := hW6.1 _ hml
            have hep6 := hW6.1 _ hep5
            have hacl : ∀ x ∈ upto sz, ∀ y ∈ aheadF (upto sz) fst lst x, y ∈ upto sz := ahead_cl
            have halen : ∀ x ∈ upto sz, (aheadF (upto sz) fst lst x).length ≤ 5 := fun x hx => Nat.le_trans (List.length_filter_le _ _) hkz
            have hz2' := hz2
            clear hfn hBI hlb hls hcl
            refine' ex_assign ?h8 ?hs8 ?hw8
            case hs8 => rfl
            case hw8 => rw [sw_eq Z.scope]; rfl
            repeat walk_at "ex"
            walk_at "kpc"
            refine (call_make (T := T') (f := 73) ?hm1 ?hi1 ?hf1 ?_).call
            case hm1 => k_is
            case hi1 => k_is
            case hf1 => k_is
            intro A₁ x1 dx1 hN1 hx1 hdx1 hne1
            refine init0 (n := 40) T' ((hR.less (Nat.le_of_ble_eq_true rfl) : Room A' 42).near hN1) fun nd1 => ⟨rfl, ?_⟩
            repeat walk_at "ex"
            walk_at "kpc"
            refine (call_make (T := T') (f := 73) ?hm2 ?hi2 ?hf2 ?_).call
            case hm2 => k_is
            case hi2 => k_is
            case hf2 => k_is
            intro A₂ x2 dx2 hN2 hx2 hdx2 hne2
            refine init0 (n := 40) T' ((hR.less (Nat.le_of_ble_eq_true rfl) : Room A' 42).near hN2) fun nd2 => ⟨rfl, ?_⟩
            repeat walk_at "ex"
            walk_at "kpf"
            refine (depths_ok T' (n := 50) (hR.less (Nat.le_of_ble_eq_true rfl)) (hd6.wk ((Wk.sub (List.sublist_append_right _ _)).trans (Wk.sub (List.sublist_append_right _ _)))) ht2 upto_nd hkz halen hacl fun dd ep7 => ?_).call
            rw [upto_len]
            repeat walk_at "ex"
            refine ⟨Nat.le_of_ble_eq_true rfl, fun t₀ ht₀ => ?_⟩
            refine' asgs_one ?ha8 ?he8
            case he8 => rfl
            refine' asg_tup3 hR.hand List.mem_cons_self ?ha9 ?he9
            case he9 => rfl
            repeat walk_at "ex"
            obtain ⟨H7, hH7, hW7, hmd⟩ : ∃ H7 : AH, H7 = (dd, AO.dict (kvF (upto sz) (fun x => (dep (aheadF (upto sz) fst lst) sz x : Nat))) ep7) :: H6 ∧ Wk H7 H6 ∧ (dd, AO.dict (kvF (upto sz) (fun x => (dep (aheadF (upto sz) fst lst) sz x : Nat))) ep7) ∈ H7 := ⟨_, rfl, Wk.cons Wk.refl, List.mem_cons_self⟩
            refine ex_wk (m' := [("depth", .ref dd), ("works", .ref x2), ("events", .ref x1), ("ahead", .ref ad), ("last", .ref lad), ("first", .ref fd), ("follow", .ref d), ("size", vI sz)]) (H' := SCX (ss0 x1 dx1 nd1) ++ (SCX (ss0 x2 dx2 nd2) ++ H7)) (by walk_at "wkl") (by rw [hH7]; exact Wk.cons wk_two) ?_
            clear hH7 ht₀ hx1 hdx1 hne1 hN1 hx2 hdx2 hne2 hN2
            have hmf7 := hW7.1 _ hmf6
            have hml7 := hW7.1 _ hml6
            have hep7 := hW7.1 _ hep6
            have hd7 := hd6.wk hW7
            obtain ⟨eL, heL⟩ : ∃ eL : List (Int × List Int), eL = (upto sz).map fun x => (lst x, [fst x]) := ⟨_, rfl⟩
            obtain ⟨wL, hwL⟩ : ∃ wL : List (Int × List Int), wL = (upto sz).map fun x => (x, aheadF (upto sz) fst lst x) := ⟨_, rfl⟩
            have heB : ∀ i, Bd (gBuild (eL.take i)) 100 := fun i => (build_bd (b := 1) (by rw [heL, List.length_map]; exact hkz) fun p hp => by
              rw [heL] at hp; obtain ⟨x, _, rfl⟩ := List.mem_map.mp hp; exact Nat.le_refl _).mono (by decide)
            have hwB : ∀ i, Bd (gBuild (wL.take i)) 100 := fun i => (build_bd (b := 5) (by rw [hwL, List.length_map]; exact hkz) fun p hp => by
              rw [hwL] at hp; obtain ⟨x, hx, rfl⟩ := List.mem_map.mp hp; exact halen x hx).mono (by decide)
            walk_at "for"
            repeat walk_at "ex"
            refine ⟨_, _, itr_tab hR.hand (List.mem_append_right _ (List.mem_append_right _ hep7)) ht, fun i m' H' => ∃ σe σw : SS, σe.Ok ∧ σw.Ok ∧ σe.sa = x1 ∧ σw.sa = x2 ∧ σe.rdy = none ∧ σw.rdy = none ∧ σe.g = gBuild (eL.take i) ∧ σw.g = gBuild (wL.take i) ∧
              WkL m' [("depth", .ref dd), ("works", .ref x2), ("events", .ref x1), ("ahead", .ref ad), ("last", .ref lad), ("first", .ref fd), ("follow", .ref d), ("size", vI sz)] ∧ Wk H' (SCX σe ++ (SCX σw ++ H7)),
              ⟨ss0 x1 dx1 nd1, ss0 x2 dx2 nd2, ss0_ok, ss0_ok, rfl, rfl, rfl, rfl, rfl, rfl, WkL.refl, Wk.refl⟩, ?_, ?_, ?_⟩
            · rintro i m' H' ⟨σe, σw, _, _, _, _, _, _, _, _, _, hW⟩
              exact hW.1 _ (List.mem_append_right _ (List.mem_append_right _ hep7))
            · rintro i v m' H' hv ⟨σe, σw, oke, okw, hsae, hsaw, hre, hrw, hge, hgw, hm, hW⟩
              rw [List.getElem?_map] at hv
              obtain ⟨x, hx, rfl⟩ := Option.map_eq_some_iff.mp hv
              have hxk := List.mem_of_getElem? hx
              have hex : eL[i]? = some (lst x, [fst x]) := by rw [heL, List.getElem?_map, hx]; rfl
              have hwx : wL[i]? = some (x, aheadF (upto sz) fst lst x) := by rw [hwL, List.getElem?_map, hx]; rfl
              have hxl := halen x hxk
              refine asg_wk hm hW ?_
              rw [← hsae, ← hsaw]
              repeat walk_at "ex"
              refine gm_own (T := T') (f := 87) (by kernel_rfl) sc_sa sc_sd (oke.none (by rintro (e | e | e | e) <;> exact absurd e (by decide))) ?_
              repeat walk_at "ex"
              refine sub_dict (List.mem_append_right _ (List.mem_append_right _ hml7)) (dval_kvF upto_nd hxk) ?_
              repeat walk_at "ex"
              refine sub_dict (List.mem_append_right _ (List.mem_append_right _ hmf7)) (dval_kvF upto_nd hxk) ?_
              repeat walk_at "ex"
              walk_at "kpf"
              refine (add_ok (n := 50) (k := lst x) (ps := [fst x]) T' (hR.less (Nat.le_of_ble_eq_true rfl)) oke hre (by rw [hge]; exact heB i) (Nat.le_of_ble_eq_true rfl) fun σe' oke' sme hge' => ?_).call
              repeat walk_at "ex"
              refine ga_wk (H' := SCX σw ++ (SCX σe' ++ H7)) wk_sw ?_
              refine ga_method (T := T') (f := 87) (by kernel_rfl) (by kernel_rfl) sc_sa sc_sd (okw.none (by rintro (e | e | e | e) <;> exact absurd e (by decide))) fun a ha => ?_
              repeat walk_at "ex"
              refine sub_dl (hd7.wk (Wk.cons ((Wk.sub (List.sublist_append_right _ _)).trans (Wk.sub (List.sublist_append_right _ _))))) ht2 upto_nd hxk fun l hl => ?_
              refine coll_list hl (by rw [List.length_map]; walk_at "le") ?_
              repeat walk_at "ex"
              rw [List.append_nil]
              refine' ⟨kp_methK T' List.mem_cons_self ?ho2 ?hd2, (call_method List.mem_cons_self (callc_wk (H' := SCX σw ++ ((a, .flds (.type "method") [.ref 87, .ref σw.sa]) :: (SCX σe' ++ H7))) wk_mid
                (add_ok (n := 50) T' (hR.less (Nat.le_of_ble_eq_true rfl)) okw hrw (by rw [hgw]; exact hwB i) ?hz3 fun σw' okw' smw hgw' => ?_))).call⟩
              case ho2 => k_is
              case hd2 => rfl
              case hz3 => exact Nat.le_trans (Nat.add_le_add_left (Nat.mul_le_mul_left 2 hxl) 100) (Nat.le_of_ble_eq_true rfl)
              repeat walk_at "ex"
              refine ⟨σe', σw', oke', okw', sme.sa, smw.sa, sme.rdy.trans hre, smw.rdy.trans hrw, by rw [hge', hge, build_take hex], by rw [hgw', hgw, build_take hwx], by walk_at "wkl", ?_⟩
              exact (Wk.sub (List.Sublist.append_left (List.sublist_cons_self _ _) _)).trans wk_sw
            · rintro m' H' ⟨σe, σw, oke, okw, hsae, hsaw, hre, hrw, hge, hgw, hm, hW⟩
              rw [List.length_map, show (upto sz).length = eL.length from by rw [heL, List.length_map], List.take_length] at hge
              rw [List.length_map, show (upto sz).length = wL.length from by rw [hwL, List.length_map], List.take_length] at hgw
              have hge2 : σe.g = gEv (upto sz) fst lst := by rw [hge, heL]; rfl
              have hgw2 : σw.g = gTab (upto sz) (aheadF (upto sz) fst lst) := by rw [hgw, hwL]; rfl
              have hbe : Bd σe.g 100 := by rw [hge, ← List.take_length (l := eL)]; exact heB _
              have hbw : Bd σw.g 100 := by rw [hgw, ← List.take_length (l := wL)]; exact hwB _
              clear hge hgw heB hwB heL hwL
              refine exs_wk hm hW ?_
              clear hm hW
              rw [← hsae, ← hsaw]
              repeat walk_at "ex"
              walk_at "kpf"
              have We : WG σe.g := by rw [hge2]; exact gEv_W
              have Ww : WG σw.g := by rw [hgw2]; exact gTab_W _ _
              refine (ring_ok (n := 40) T' (hR.less (Nat.le_of_ble_eq_true rfl)) oke hre (le_N hbe.len rfl) (clo_of We rfl fun _ => rfl) fun σe' re rae oke' qe1 qe2 qe3 qe4 qe5 hre1 hre2 => ?_).call
              repeat walk_at "ex"
              walk_at "kpf"
              refine (callc_wk (H' := SCX σw ++ (SCX σe' ++ H7)) wk_sw (ring_ok (n := 40) T' (hR.less (Nat.le_of_ble_eq_true rfl)) okw hrw (le_N hbw.len rfl) (clo_of Ww rfl fun _ => rfl) fun σw' rw' raw okw' qw1 qw2 qw3 qw4 qw5 hrw1 hrw2 => ?_)).call
              repeat walk_at "ex"
              refine ⟨Nat.le_of_ble_eq_true rfl, fun rl hrl => ?_⟩
              repeat walk_at "ex"
              rw [hge2] at hre1 hre2
              rw [hgw2] at hrw1 hrw2
              have hbe2 : Bd (gEv (upto sz) fst lst) 100 := hge2 ▸ hbe
              have hbw2 : Bd (gTab (upto sz) (aheadF (upto sz) fst lst)) 100 := hgw2 ▸ hbw
              have hWe := gEv_W (ks := upto sz) (first := fst) (last := lst)
              have hWw := gTab_W (upto sz) (aheadF (upto sz) fst lst)
              have hnw : (nodes (gTab (upto sz) (aheadF (upto sz) fst lst))).length = sz := by rw [gTab_len upto_nd hacl, upto_len]
              have hne : (nodes (gEv (upto sz) fst lst)).length ≤ 100 := by unfold nodes; rw [List.length_map]; exact hbe2.len
              obtain ⟨H8, hH8, hW8, hmr⟩ : ∃ H8 : AH, H8 = (rl, AO.list [.bool re, .bool rw']) :: H7 ∧ Wk H8 H7 ∧ (rl, AO.list [.bool re, .bool rw']) ∈ H8 := ⟨_, rfl, Wk.cons Wk.refl, List.mem_cons_self⟩
              refine ex_wk (m' := [("rings", .ref rl), ("depth", .ref dd), ("works", .ref σw'.sa), ("events", .ref σe'.sa), ("first", .ref fd), ("follow", .ref d), ("size", vI sz)]) (H' := SCX σe' ++ (SCX σw' ++ H8)) (by rw [qe1, qw1]; walk_at "wkl") (by rw [hH8]; exact wk_two) ?_
              clear hH8 hrl
              have hmd8 := hW8.1 _ hmd
              have hmf8 := hW8.1 _ hmf7
              have hep8 := hW8.1 _ hep7
              walk_at "for"
              repeat walk_at "ex"
              refine call_range fun r1 hr1 => ?_
              refine ⟨_, _, itr_upto hR.hand (by walk_at "le") List.mem_cons_self, fun i m' H' => ∃ σ₁ σ₂ De Le Dw Lw, SS.Ok σ₁ ∧ SS.Ok σ₂ ∧ σ₁.sa = σe'.sa ∧ σ₂.sa = σw'.sa ∧ σ₁.rdy = some (rae, Le) ∧ σ₂.rdy = some (raw, Lw) ∧
                Rnd (gEv (upto sz) fst lst) De De Le σ₁.g ∧ De.Nodup ∧ Rnd (gTab (upto sz) (aheadF (upto sz) fst lst)) Dw Dw Lw σ₂.g ∧ Dw.Nodup ∧ (∀ x ∈ upto sz, fst x ∈ De ↔ dep (aheadF (upto sz) fst lst) sz x < i) ∧
                (∀ y, y ∈ Dw ↔ y ∈ upto sz ∧ dep (aheadF (upto sz) fst lst) sz y < i) ∧ (Lw = [] ∨ i ≤ Dw.length) ∧
                WkL m' [("rings", .ref rl), ("depth", .ref dd), ("works", .ref σw'.sa), ("events", .ref σe'.sa), ("first", .ref fd), ("follow", .ref d), ("size", vI sz)] ∧ Wk H' (SCX σ₁ ++ (SCX σ₂ ++ H8)),
                ⟨σe', σw', [], gFree σe.g, [], gFree σw.g, oke', okw', rfl, rfl, qe2, qw2, by rw [qe5, hge2]; exact Rnd.init hWe, List.nodup_nil, by rw [qw5, hgw2]; exact Rnd.init hWw, List.nodup_nil, fun x _ => by simp, fun y => by simp, .inr (Nat.zero_le _), by walk_at "wkl", Wk.cons Wk.refl⟩, fun _ _ _ _ => trivial, ?_, ?_⟩
              · rintro i v m' H' hv ⟨σ₁, σ₂, De, Le, Dw, Lw, ok₁, ok₂, hs₁, hs₂, hr₁, hr₂, hrE, hDe, hrW, hDw, hmE, hmW, hLi, hm, hW⟩
                rw [List.getElem?_map] at hv
                obtain ⟨kk, hy, rfl⟩ := Option.map_eq_some_iff.mp hv
                obtain ⟨hmi, rfl⟩ : i < sz ∧ kk = (i : Int) := by
                  have h1 := (List.getElem?_eq_some_iff.mp hy).1
                  rw [upto_len] at h1
                  refine ⟨h1, ?_⟩
                  unfold upto at hy
                  rw [List.getElem?_map, List.getElem?_range h1] at hy
                  exact (Option.some.inj hy).symm
                refine asg_wk hm hW ?_
                rw [← hs₁, ← hs₂]
                clear hm hW hv hy
                have hgE := ev_group hmi hrE hmE
                have hgW := work_group hmi hacl hrW hmW
                have hnn1 : nodes σ₁.g = nodes (gEv (upto sz) fst lst) := by rw [hrE.eq]; exact with_nodes
                have hnn2 : nodes σ₂.g = nodes (gTab (upto sz) (aheadF (upto sz) fst lst)) := by rw [hrW.eq]; exact with_nodes
                have hLel : Le.length ≤ 100 := by have := nd_len hrE.nd (bs := nodes (gEv (upto sz) fst lst)) fun x hx => ((hrE.rd x).mp hx).1; omega
                have hLwl : Lw.length ≤ 5 := by have := nd_len hrW.nd (bs := nodes (gTab (upto sz) (aheadF (upto sz) fst lst))) fun x hx => ((hrW.rd x).mp hx).1; omega
                repeat walk_at "ex"
                refine' ex_assign ?h4 ?hs4 ?hw4
                case hs4 => rfl
                case hw4 => rw [sw_eq Z.scope]; rfl
                repeat walk_at "ex"
                refine gm_own (T := T') (f := 99) (by kernel_rfl) sc_sa sc_sd (ok₁.none (by rintro (e | e | e | e) <;> exact absurd e (by decide))) ?_
                repeat walk_at "ex"
                walk_at "kpf"
                refine (ready_ok (n := 50) (b := 0) T' (hR.less (Nat.le_of_ble_eq_true rfl)) ok₁ hr₁ (by walk_at "le") (fun x hx => by
                  have := ((hrE.rd x).mp hx).1
                  rw [← hnn1] at this; exact this) fun σ₃ t1 ok₃ hs₃ hr₃ hpo₃ hnf₃ hg₃ => ?_).call
                repeat walk_at "ex"
                refine gm_wk (H' := SCX σ₂ ++ (SCX σ₃ ++ (t1, .tup (iv Le)) :: H8)) wk_in ?_
                refine gm_own (T := T') (f := 99) (by kernel_rfl) sc_sa sc_sd (ok₂.none (by rintro (e | e | e | e) <;> exact absurd e (by decide))) ?_
                repeat walk_at "ex"
                walk_at "kpf"
                refine (ready_ok (n := 50) (b := 0) T' (hR.less (Nat.le_of_ble_eq_true rfl)) ok₂ hr₂ (by walk_at "le") (fun x hx => by
                  have := ((hrW.rd x).mp hx).1
                  rw [← hnn2] at this; exact this) fun σ₄ t2 ok₄ hs₄ hr₄ hpo₄ hnf₄ hg₄ => ?_).call
                repeat walk_at "ex"
                have hin8 : ∀ {p : Addr × AO}, p ∈ H8 → p ∈ SCX σ₄ ++ (t2, .tup (iv Lw)) :: (SCX σ₃ ++ (t1, .tup (iv Le)) :: H8) := fun hp => List.mem_append_right _ (up1 (List.mem_append_right _ (up1 hp)))
                refine' turns_lc (us := upto sz) (tv := vI) ?hb9 (itr_tab hR.hand (hin8 hep8) ht) (fun H hW => hW.1 _ (hin8 hep8)) (by walk_at "le") (fun x => decide (dep (aheadF (upto sz) fst lst) sz x = i)) vI ?turn9 ?fin9 Z.scope
                case hb9 => rfl
                case turn9 =>
                  intro fx3 Z3 x hx
                  repeat walk_at "ex"
                  refine sub_dict (hin8 hmd8) (dval_kvF upto_nd hx) ?_
                  repeat walk_at "ex"
                  have e : (((dep (aheadF (upto sz) fst lst) sz x : Nat) : Int) == (i : Int)) = decide (dep (aheadF (upto sz) fst lst) sz x = i) := by
                    exact cast_beq
                  rw [e]
                  walk_at "pick"
                case fin9 =>
                  intro due hdue
                  generalize hU : (upto sz).filter (fun x => decide (dep (aheadF (upto sz) fst lst) sz x = i)) = U
                  have hUm : ∀ y, y ∈ U ↔ y ∈ Lw := fun y => by
                    rw [← hU, List.mem_filter, hgW, decide_eq_true_eq]
                  have hUl : U.Pairwise (· ≤ ·) := by rw [← hU]; exact upto_le.sublist List.filter_sublist
                  have hUn : U.Nodup := by rw [← hU]; exact upto_nd.sublist List.filter_sublist
                  have hUe : (upto sz).filter (fun x => decide (fst x ∈ Le)) = U := by
                    rw [← hU]
                    refine List.filter_congr fun x hx => ?_
                    exact decide_eq_decide.mpr (hgE x hx)
                  repeat walk_at "ex"
                  refine ⟨Nat.le_of_ble_eq_true rfl, fun t3 ht3 => ?_⟩
                  obtain ⟨H9, hH9, hT9, hW9, hm1, hm2, hmu⟩ : ∃ H9 : AH, H9 = (due, AO.list (iv U)) :: (t2, AO.tup (iv Lw)) :: (t1, AO.tup (iv Le)) :: H8 ∧ H8.Sublist H9 ∧ Wk H9 H8 ∧ (t1, AO.tup (iv Le)) ∈ H9 ∧ (t2, AO.tup (iv Lw)) ∈ H9 ∧ (due, AO.list (iv U)) ∈ H9 :=
                    ⟨_, rfl, (List.sublist_cons_self _ _).trans ((List.sublist_cons_self _ _).trans (List.sublist_cons_self _ _)), Wk.cons (Wk.cons (Wk.cons Wk.refl)), up2 List.mem_cons_self, up1 List.mem_cons_self, List.mem_cons_self⟩
                  refine asgs_wk (m' := [("k", vI (i : Int)), ("rings", .ref rl), ("depth", .ref dd), ("works", .ref σ₄.sa), ("events", .ref σ₃.sa), ("first", .ref fd), ("follow", .ref d), ("size", vI sz)]) (H' := (t3, .tup [.ref t1, .ref t2, .ref due]) :: (SCX σ₃ ++ (SCX σ₄ ++ H9))) (by rw [hs₃, hs₄]; walk_at "wkl") (by rw [hH9]; exact Wk.keep wk_four) ?_
                  clear hH9 ht3 hdue hin8
                  refine' asgs_one ?ha5 ?he5
                  case he5 => rfl
                  refine' asg_tup3 hR.hand List.mem_cons_self ?ha6 ?he6
                  case he6 => rfl
                  have hin9 : ∀ {p : Addr × AO}, p ∈ H9 → p ∈ (t3, .tup [.ref t1, .ref t2, .ref due]) :: (SCX σ₃ ++ (SCX σ₄ ++ H9)) := fun hp => up1 (List.mem_append_right _ (List.mem_append_right _ hp))
                  have hmf9 := hW9.1 _ hmf8
                  have hep9 := hW9.1 _ hep8
                  repeat walk_at "ex"
                  refine call_isinstance_tup (hin9 hm1) ?_
                  repeat walk_at "ex"
                  refine' turns_lc (us := upto sz) (tv := vI) ?hb10 (itr_tab hR.hand (hin9 hep9) ht) (fun H hW => hW.1 _ (hin9 hep9)) (by walk_at "le") (fun x => decide (fst x ∈ Le)) vI ?turn10 ?fin10 Z.scope
                  case hb10 => rfl
                  case turn10 =>
                    intro fx3 Z3 x hx
                    repeat walk_at "ex"
                    refine sub_dict (hin9 hmf9) (dval_kvF upto_nd hx) ?_
                    repeat walk_at "ex"
                    refine co_in_tup (hin9 hm1) ?_
                    repeat walk_at "ex"
                    walk_at "pick"
                  case fin10 =>
                    intro a₅ ha₅
                    rw [hUe]
                    repeat walk_at "ex"
                    refine co_ne_ints hR.eqs List.mem_cons_self (up1 (hin9 hmu)) ?_
                    rw [decide_eq_true rfl]
                    repeat walk_at "ex"
                    refine call_isinstance_tup (up1 (hin9 hm2)) ?_
                    repeat walk_at "ex"
                    refine call_sorted_t (ns := Lw) (up1 (hin9 hm2)) (by walk_at "le") fun a₆ K' ha₆ hp6 hle6 => ?_
                    have eK : K' = U := rising_mem hle6 hUl (hp6.nodup_iff.mpr hrW.nd) hUn fun x => by rw [hp6.mem_iff, hUm]
                    rw [eK]
                    repeat walk_at "ex"
                    refine co_ne_ints hR.eqs List.mem_cons_self (up2 (hin9 hmu)) ?_
                    rw [decide_eq_true rfl]
                    repeat walk_at "ex"
                    obtain ⟨houtE, hrE'⟩ := hrE.round hWe
                    obtain ⟨houtW, hrW'⟩ := hrW.round hWw
                    rw [← hg₃] at houtE hrE'
                    rw [← hg₄] at houtW hrW'
                    have hwE2 : σ₃.g = gWith (gEv (upto sz) fst lst) (stF (gEv (upto sz) fst lst) De (De ++ Le)) := by rw [hg₃]; exact (hrE.get hWe).eq
                    have hwW2 : σ₄.g = gWith (gTab (upto sz) (aheadF (upto sz) fst lst)) (stF (gTab (upto sz) (aheadF (upto sz) fst lst)) Dw (Dw ++ Lw)) := by rw [hg₄]; exact (hrW.get hWw).eq
                    clear eK hU hUm hUl hUn hUe hp6 hle6 ha₆ ha₅ hin9
                    refine ga_wk (H' := SCX σ₃ ++ (SCX σ₄ ++ H9)) (Wk.cons (Wk.cons (Wk.cons Wk.refl))) ?_
                    refine ga_method (T := T') (f := 120) (by kernel_rfl) (by kernel_rfl) sc_sa sc_sd (ok₃.none (by rintro (e | e | e | e) <;> exact absurd e (by decide))) fun a ha => ?_
                    repeat walk_at "ex"
                    refine coll_tup (up1 (List.mem_append_right _ (List.mem_append_right _ hm1))) (by rw [List.length_map]; walk_at "le") ?_
                    refine' ⟨kp_methK T' List.mem_cons_self ?ho2 ?hd2, (call_method List.mem_cons_self (callc_wk (H' := SCX σ₃ ++ ((a, .flds (.type "method") [.ref 120, .ref σ₃.sa]) :: (SCX σ₄ ++ H9))) wk_mid
                      (done_ok (n := 50) (b := 100) T' (hR.less (Nat.le_of_ble_eq_true rfl)) ok₃ hr₃ ?hb3 ?hz3 ?hz4 houtE ?hcl3 fun σ₅ ok₅ hs₅ hr₅ hpo₅ hnf₅ hg₅ => ?_))).call⟩
                    case ho2 => k_is
                    case hd2 => rfl
                    case hb3 => rw [hwE2]; exact bd_with hbe2
                    case hz3 => exact Nat.le_trans (Nat.add_le_add_left (Nat.mul_le_mul_right 100 hLel) 0) (Nat.le_of_ble_eq_true rfl)
                    case hz4 => walk_at "le"
                    case hcl3 => exact clo_of hWe (by rw [hwE2]; exact with_nodes) (fun k => by rw [hwE2]; exact with_suc)
                    repeat walk_at "ex"
                    refine ga_wk (H' := SCX σ₄ ++ (SCX σ₅ ++ H9)) ((Wk.sub (List.Sublist.append_left (List.sublist_cons_self _ _) _)).trans wk_sw) ?_
                    refine ga_method (T := T') (f := 120) (by kernel_rfl) (by kernel_rfl) sc_sa sc_sd (ok₄.none (by rintro (e | e | e | e) <;> exact absurd e (by decide))) fun a2 ha2 => ?_
                    repeat walk_at "ex"
                    refine coll_tup (up1 (List.mem_append_right _ (List.mem_append_right _ hm2))) (by rw [List.length_map]; walk_at "le") ?_
                    refine' ⟨kp_methK T' List.mem_cons_self ?ho4 ?hd4, (call_method List.mem_cons_self (callc_wk (H' := SCX σ₄ ++ ((a2, .flds (.type "method") [.ref 120, .ref σ₄.sa]) :: (SCX σ₅ ++ H9))) wk_mid
                      (done_ok (n := 50) (b := 100) T' (hR.less (Nat.le_of_ble_eq_true rfl)) ok₄ hr₄ ?hb5 ?hz5 ?hz6 houtW ?hcl5 fun σ₆ ok₆ hs₆ hr₆ hpo₆ hnf₆ hg₆ => ?_))).call⟩
                    case ho4 => k_is
                    case hd4 => rfl
                    case hb5 => rw [hwW2]; exact bd_with hbw2
                    case hz5 => exact Nat.le_trans (Nat.add_le_add_left (Nat.mul_le_mul_right 100 hLwl) 0) (Nat.le_of_ble_eq_true rfl)
                    case hz6 => walk_at "le"
                    case hcl5 => exact clo_of hWw (by rw [hwW2]; exact with_nodes) (fun k => by rw [hwW2]; exact with_suc)
                    repeat walk_at "ex"
                    refine ⟨σ₅, σ₆, De ++ Le, (gDone (σ₃.g, []) Le).2, Dw ++ Lw, (gDone (σ₄.g, []) Lw).2, ok₅, ok₆, hs₅.trans hs₃, hs₆.trans hs₄, hr₅, hr₆, by rw [hg₅]; exact hrE', rnd_nodup hrE hDe, by rw [hg₆]; exact hrW', rnd_nodup hrW hDw, fun x hx => ?_, fun y => ?_, turn_len hLi _ (fun e => by rw [e]; rfl), ?_, ?_⟩
                    · rw [List.mem_append, hmE x hx, hgE x hx]; omega
                    · rw [List.mem_append, hmW, hgW]
                      constructor
                      · rintro (⟨h1, h2⟩ | ⟨h1, h2⟩)
                        · exact ⟨h1, by omega⟩
                        · exact ⟨h1, by omega⟩
                      · rintro ⟨h1, h2⟩
                        rcases Nat.lt_or_eq_of_le (Nat.le_of_lt_succ h2) with h3 | h3
                        · exact .inl ⟨h1, h3⟩
                        · exact .inr ⟨h1, h3⟩
                    · rw [← hs₃, ← hs₄]; walk_at "wkl"
                    · exact ((Wk.sub (List.Sublist.append_left (List.sublist_cons_self _ _) _)).trans wk_sw).trans (wk_tail2 hT9)
              · rintro m' H' ⟨σ₁, σ₂, De, Le, Dw, Lw, ok₁, ok₂, hs₁, hs₂, hr₁, hr₂, hrE, hDe, hrW, hDw, hmE, hmW, hLi, hm, hW⟩
                rw [List.length_map, upto_len] at hLi hmW hmE
                have hLeft := hrW.left hWw hDw (by rw [hnw]; exact hLi)
                obtain ⟨hsw, hse⟩ := rings_say (n := sz) hLeft hmW hrw1 hrw2 hre1 hre2
                have hLw : Lw = [] := by
                  rcases hLi with h1 | h1
                  · exact h1
                  · refine List.eq_nil_iff_forall_not_mem.mpr fun y hy => ?_
                    obtain ⟨h2, h3, _⟩ := (hrW.rd y).mp hy
                    exact h3 (nodup_all hDw hrW.inG (by rw [hnw]; exact h1) y h2)
                subst hLw
                refine exs_wk hm (hW.trans wk_sw) ?_
                clear hm hW hLeft
                rw [← hs₁, ← hs₂]
                have hin8 : ∀ {p : Addr × AO}, p ∈ H8 → p ∈ SCX σ₂ ++ (SCX σ₁ ++ H8) := fun hp => List.mem_append_right _ (List.mem_append_right _ hp)
                repeat walk_at "ex"
                refine' turns_lc (us := upto sz) (tv := vI) ?hb12 (itr_tab hR.hand (hin8 hep8) ht) (fun H hW => hW.1 _ (hin8 hep8)) (by walk_at "le") (fun x => decide (dep (aheadF (upto sz) fst lst) sz x = sz)) vI ?turn12 ?fin12 Z.scope
                case hb12 => rfl
                case turn12 =>
                  intro fx3 Z3 x hx
                  repeat walk_at "ex"
                  refine sub_dict (hin8 hmd8) (dval_kvF upto_nd hx) ?_
                  repeat walk_at "ex"
                  have e : (((dep (aheadF (upto sz) fst lst) sz x : Nat) : Int) == (sz : Int)) = decide (dep (aheadF (upto sz) fst lst) sz x = sz) := by
                    exact cast_beq
                  rw [e]
                  walk_at "pick"
                case fin12 =>
                  intro st hst
                  rw [show ((upto sz).filter fun x => decide (dep (aheadF (upto sz) fst lst) sz x = sz)).map vI = iv ((upto sz).filter fun x => decide (dep (aheadF (upto sz) fst lst) sz x = sz)) from rfl]
                  generalize (upto sz).filter (fun x => decide (dep (aheadF (upto sz) fst lst) sz x = sz)) = U at hsw hse
                  repeat walk_at "ex"
                  refine ⟨by decide, fun e1 he1 => ?_⟩
                  refine co_ne_ints (ns := U) (ms := []) hR.eqs (up1 List.mem_cons_self) List.mem_cons_self ?_
                  repeat walk_at "ex"
                  refine ⟨by decide, fun e2 he2 => ?_⟩
                  refine co_ne_ints (ns := U) (ms := []) hR.eqs (up2 List.mem_cons_self) List.mem_cons_self ?_
                  rw [← hsw]
                  repeat walk_at "ex"
                  refine ⟨Nat.le_of_ble_eq_true rfl, fun e3 he3 => ?_⟩
                  refine co_eq_dat (d := .list [.bool rw', .bool rw']) (d' := .list [.bool rw', .bool rw']) hR.eqs (DAT.list (up1 (up3 (hin8 hmr))) ⟨by rw [hse, ← hsw]; exact DAT.bool _, DAT.bool _, trivial⟩) (DAT.list List.mem_cons_self ⟨DAT.bool _, DAT.bool _, trivial⟩) (by rfl) (by rfl) ?_
                  rw [eqv_bools2]
                  repeat walk_at "ex"
                  refine gm_wk (H' := SCX σ₂ ++ (SCX σ₁ ++ H8)) (Wk.cons (Wk.cons (Wk.cons (Wk.cons Wk.refl)))) ?_
                  refine gm_own (T := T') (f := 99) (by kernel_rfl) sc_sa sc_sd (ok₂.none (by rintro (e | e | e | e) <;> exact absurd e (by decide))) ?_
                  repeat walk_at "ex"
                  walk_at "kpf"
                  refine (ready_ok (n := 50) (b := 0) T' (hR.less (Nat.le_of_ble_eq_true rfl)) ok₂ hr₂ (by simp) (fun x hx => by cases hx) fun σ₃ t1 ok₃ hs₃ hr₃ hpo₃ hnf₃ hg₃ => ?_).call
                  repeat walk_at "ex"
                  refine ⟨Nat.le_of_ble_eq_true rfl, fun t2 ht2 => ?_⟩
                  refine co_eq_dat (d := .tuple []) (d' := .tuple []) hR.eqs (DAT.tup (xs := []) (up1 (List.mem_append_right _ List.mem_cons_self)) trivial) (DAT.tup List.mem_cons_self trivial) (by rfl) (by rfl) ?_
                  rw [show PyData.eqv (.tuple []) (.tuple []) = true from by simp [PyData.eqv, PyData.eqvAll]]
                  repeat walk_at "ex"
                  rfl

noncomputable def join04.tw17870176830005755869 : Nat := 0
noncomputable def join04.tw15362458108306756327 : Nat := 0
noncomputable def join04.tw6028330791161088830 : Nat := 0
noncomputable def join04.tw12180886353637163622 : Nat := 0
noncomputable def join04.tw14038521755686803760 : Nat := 0
noncomputable def join04.tw3169097907432555858 : Nat := 0
noncomputable def join04.tw8839115265594652390 : Nat := 0
noncomputable def join04.tw7420621282417694335 : Nat := 0
noncomputable def join04.tw14176169577158761187 : Nat := 0
noncomputable def join04.tw10810218383820197468 : Nat := 0
noncomputable def join04.tw4707750099436760952 : Nat := 0
noncomputable def join04.tw1610297876457410976 : Nat := 0
noncomputable def join04.tw1280171153487767738 : Nat := 0
noncomputable def join04.tw15903360394209838047 : Nat := 0
noncomputable def join04.tw15398225706551528364 : Nat := 0
noncomputable def join04.tw9548918447188122743 : Nat := 0
noncomputable def join04.tw2773752191632347081 : Nat := 0
noncomputable def join04.tw10560940065361202886 : Nat := 0
noncomputable def join04.tw5208862552735687631 : Nat := 0
noncomputable def join04.tw400649859061736474 : Nat := 0
noncomputable def join04.tw16061645017193299860 : Nat := 0
noncomputable def join04.tw9949588066300315261 : Nat := 0
noncomputable def join04.tw16994595644333848396 : Nat := 0
noncomputable def join04.tw14936771330280749996 : Nat := 0
noncomputable def join04.tw5729736994481986747 : Nat := 0
noncomputable def join04.tw13330836143176565650 : Nat := 0
noncomputable def join04.tw7300477712100621912 : Nat := 0
noncomputable def join04.tw16008473953368401915 : Nat := 0
noncomputable def join04.tw2584553265087594721 : Nat := 0
noncomputable def join04.tw8293934824388170556 : Nat := 0
noncomputable def join04.tw655605937317909352 : Nat := 0
noncomputable def join04.tw11222511488661734096 : Nat := 0
noncomputable def join04.tw7167955908113005380 : Nat := 0
noncomputable def join04.tw3079779589569416294 : Nat := 0
noncomputable def join04.tw3036835111911477426 : Nat := 0
noncomputable def join04.tw4456937129360031600 : Nat := 0
noncomputable def join04.tw693776254152995187 : Nat := 0
noncomputable def join04.tw14821359244004073699 : Nat := 0
noncomputable def join04.tw2500551685338201315 : Nat := 0
noncomputable def join04.tw15154373182108284939 : Nat := 0
noncomputable def join04.tw13312856746543593999 : Nat := 0
noncomputable def join04.tw3939834102648662939 : Nat := 0
noncomputable def join04.tw12368657686968627687 : Nat := 0
noncomputable def join04.tw11875254937580379434 : Nat := 0
noncomputable def join04.tw55935709178020857 : Nat := 0
noncomputable def join04.tw3888559794211847609 : Nat := 0
noncomputable def join04.tw12601068223303935061 : Nat := 0
noncomputable def join04.tw8736047701982654420 : Nat := 0
noncomputable def join04.tw5600156424891104602 : Nat := 0
noncomputable def join04.tw6153900664702266933 : Nat := 0
noncomputable def join04.tw13514482814688913491 : Nat := 0
noncomputable def join04.tw12940122866415364584 : Nat := 0
noncomputable def join04.tw15485960013821998357 : Nat := 0
noncomputable def join04.tw17621390808212186811 : Nat := 0
noncomputable def join04.tw3707238903116600990 : Nat := 0
noncomputable def join04.tw17401275718974768250 : Nat := 0
noncomputable def join04.tw39605351647398026 : Nat := 0
noncomputable def join04.tw18370067244610991507 : Nat := 0
noncomputable def join04.tw2171721232817311987 : Nat := 0
noncomputable def join04.tw17914988340720074082 : Nat := 0
noncomputable def join04.tw3238359714600021078 : Nat := 0
noncomputable def join04.tw5925715911051689251 : Nat := 0
noncomputable def join04.tw281136967267624857 : Nat := 0
noncomputable def join04.tw268710390963663494 : Nat := 0
noncomputable def join04.tw6557291295760492587 : Nat := 0
noncomputable def join04.tw15989393217744550603 : Nat := 0
noncomputable def join04.tw15671287543162754536 : Nat := 0
noncomputable def join04.tw14426839144889615460 : Nat := 0
noncomputable def join04.tw639476791578830994 : Nat := 0
noncomputable def join04.tw11626548551245116946 : Nat := 0
noncomputable def join04.tw9017992771813960910 : Nat := 0
noncomputable def join04.tw5779978679673201620 : Nat := 0
noncomputable def join04.tw4438215836168006673 : Nat := 0
noncomputable def join04.tw10249515584306216135 : Nat := 0
noncomputable def join04.tw3802956973976655996 : Nat := 0
noncomputable def join04.tw15124653109646206290 : Nat := 0
noncomputable def join04.tw7130172429465749076 : Nat := 0
noncomputable def join04.tw13433578533652332612 : Nat := 0
noncomputable def join04.tw10025532754775260889 : Nat := 0
noncomputable def join04.tw14467882101133154367 : Nat := 0
noncomputable def join04.tw2460657104393795269 : Nat := 0
noncomputable def join04.tw12782394334109491962 : Nat := 0
noncomputable def join04.tw5486002389905385751 : Nat := 0
noncomputable def join04.tw7135317241998494835 : Nat := 0
noncomputable def join04.tw2035699442843687743 : Nat := 0
noncomputable def join04.tw6016163919008399903 : Nat := 0
noncomputable def join04.tw8436626379025146814 : Nat := 0
noncomputable def join04.tw10277539127274982879 : Nat := 0
noncomputable def join04.tw9573326927100736030 : Nat := 0
noncomputable def join04.tw10389711065980355745 : Nat := 0
noncomputable def join04.tw1823623922706314980 : Nat := 0
noncomputable def join04.tw15666596987484551430 : Nat := 0
noncomputable def join04.tw5344452674645336457 : Nat := 0
noncomputable def join04.tw10612893526581819475 : Nat := 0
noncomputable def join04.tw17810607981239121993 : Nat := 0
noncomputable def join04.tw12641528699743429037 : Nat := 0
noncomputable def join04.tw2599737679098683612 : Nat := 0
noncomputable def join04.tw6997540236000011428 : Nat := 0
noncomputable def join04.tw12981122975727105276 : Nat := 0
noncomputable def join04.tw5443559805704896365 : Nat := 0
noncomputable def join04.tw12763747930441247906 : Nat := 0
noncomputable def join04.tw1253067048784855761 : Nat := 0
noncomputable def join04.tw17467968451563846473 : Nat := 0
noncomputable def join04.tw11231782128438131106 : Nat := 0
noncomputable def join04.tw1977587681185075195 : Nat := 0
noncomputable def join04.tw15572942467317852459 : Nat := 0
noncomputable def join04.tw16574227867793992689 : Nat := 0
noncomputable def join04.tw3975181062940373915 : Nat := 0
noncomputable def join04.tw1946147102103371165 : Nat := 0
noncomputable def join04.tw1901393944168060254 : Nat := 0
noncomputable def join04.tw7467628832099645859 : Nat := 0
noncomputable def join04.tw2389718866295147788 : Nat := 0
noncomputable def join04.tw598024896121582584 : Nat := 0
noncomputable def join04.tw1457447835774690601 : Nat := 0
noncomputable def join04.tw7219035878255062818 : Nat := 0
noncomputable def join04.tw2895017284801667843 : Nat := 0
noncomputable def join04.tw2635845686034318731 : Nat := 0
noncomputable def join04.tw16283504336853378512 : Nat := 0
noncomputable def join04.tw13547844134873419573 : Nat := 0
set_option Elab.async true in
set_option maxHeartbeats 16000000 in
theorem join04 : PySem.Challenge.rw_ik0042_04.Holds := by
  w_on; o_law; o_head (kHook K04 asK04 (fun _ => by kernel_rfl)); (case hw => w_witness2)
  intro w s₀ s₁ mg mb G Y a o pm cd doc dV kV ho hod hcr hdf hmg hgens args vals as hpre hlay hrd hwell hna
  obtain rfl := (hdf.pos.resolve_right fun h => h.1 rfl).2
  obtain rfl := (hdf.kw.resolve_right fun h => h.1 rfl).2
  have hK := kIn_of Y
  have TR := topRead_of G.T
  wrow_args hpre hlay hrd hwell hna
  rename Heap.IsList _ _ _ => hL
  rename IntsAre _ _ => hI
  rename ¬ _ < _ => h63
  have T : Top ⟨PySem.Challenge.rw_ik0042_04.row.prog, w, s₁.heap, s₁.os⟩ (K04 w.params) := ⟨hK, ⟨_, TR.g⟩, ⟨_, TR.b, TR.builtins⟩, TR.nolimit, ⟨_, _, _, _, TR⟩⟩
  refine wpAny_call (codeAny_mono (call_top (binds := ?binds) (prog := PySem.Challenge.rw_ik0042_04.row.prog) (w := w) (R := fun v => v = .bool true) ⟨⟨o, ho, hod⟩, rfl, rfl, rfl, rfl, hcr, TR.nolimit, rfl, rfl, rfl⟩ ?room ?low rfl ?gens ?hbind ?hb ?body) fun r s' hr => ?fin)
  case room => decide +kernel
  case low => exact ⟨let ⟨o, _, _, h, _⟩ := TR.g; ⟨o, h⟩, let ⟨_, ⟨o, _, _, h, _⟩, _⟩ := (G.T.seer (by decide +kernel)).mods; ⟨o, h⟩⟩
  case gens => exact .of_eq hgens
  case hbind => rfl
  case hb => exact bindOk_of rfl
  case body =>
    intro fx' I
    have Z := I.sc
    dsimp only [PySem.Calls.docDef] at Z
    have hh : Here (callerA.deeper fx'.env) fx' := Here.of I
    have hR : Room (callerA.deeper fx'.env) 100 := ⟨by show callerA.depth + 1 + 4 * 100 ≤ 900; decide +kernel, by show callerA.units + 3 + 20 * 100 ≤ 9000; decide +kernel, rfl⟩
    have hb : BL ⟨PySem.Challenge.rw_ik0042_04.row.prog, w, s₁.heap, s₁.os⟩ _ _ := ⟨_, hL, er_intsAre hI⟩
    obtain ⟨C, hC⟩ : ∃ C : Cfg, C = ⟨PySem.Challenge.rw_ik0042_04.row.prog, w, s₁.heap, s₁.os⟩ := ⟨_, rfl⟩
    have T' : Top C (K04 C.w.params) := by rw [hC]; exact T
    rw [← hC] at hb ⊢
    clear hdf hmg hod hcr hL hI T TR hK Y G ho
    clear hC I
    generalize callerA.deeper fx'.env = A' at hR hh ⊢
    refine exs_wk (m' := [("script", _)]) (H' := []) WkL.refl Wk.refl ?_
    obtain ⟨l, ns, rfl, rfl⟩ := hb.nm
    have hlen : ns.length ≤ 63 := by have := Int.not_lt.mp h63; omega
    exact law_body (ns := ns) T' hR hb hlen Z
  case fin =>
    obtain ⟨v, rfl, hv, hk, hos, hg⟩ := hr
    obtain rfl := er_eq_bool hv
    refine ⟨.inl ⟨_, .bool true, [], rfl, fun cls => ?_, .bool true, ?_, fun _ => ⟨List.nodup_nil, fun a h => by cases h⟩⟩, .of_keep hk, hos, hg⟩
    · rfl
    · wrow_post

end Mine

theorem PySem.Challenge.cw_ik0042_04_holds : PySem.Challenge.rw_ik0042_04.Holds :=
  Mine.join04
