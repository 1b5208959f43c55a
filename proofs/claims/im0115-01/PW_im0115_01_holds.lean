import PyProof.Rows.All

import Wide.All

import OpenK.AllK

import Wide.FinOn

import Lean

import PySem.Challenge.RW_im0115_01

set_option maxRecDepth 100000

set_option Elab.async false

namespace Mine
open PySem PySem.W PyProof.Rows

inductive V where
  | none | bool (b : Bool) | int (i : Int) | ref (k : Nat)
  deriving DecidableEq
inductive O where
  | list (xs : List V) | tup (xs : List V) | ba (xs : List Nat) | rng (a b c : Int) | tab
  deriving DecidableEq
abbrev Loc := List (Option V)
abbrev Hp := List O

inductive VR (α : List Addr) : V → Value → Prop
  | none : VR α .none .none
  | bool (b : Bool) : VR α (.bool b) (.bool b)
  | int (i : Int) (t : Tok) : VR α (.int i) (.int i t)
  | ref (k : Nat) (a : Addr) : α[k]? = some a → VR α (.ref k) (.ref a)

inductive VRs (α : List Addr) : List V → List Value → Prop
  | nil : VRs α [] []
  | cons {v v' r r'} : VR α v v' → VRs α r r' → VRs α (v :: r) (v' :: r')

inductive OR (α : List Addr) : O → Obj → Prop
  | list {xs vs n} : VRs α xs vs → OR α (.list xs) { cls := .type "list", dict := none, data := .seq vs.toArray n, slots := #[] }
  | tup {xs vs n} : VRs α xs vs → OR α (.tup xs) { cls := .type "tuple", dict := none, data := .seq vs.toArray n, slots := #[] }
  | ba {xs} {b : Array UInt8} : b.toList.map (·.toNat) = xs → OR α (.ba xs) { cls := .type "bytearray", dict := none, data := .bytearray b 0, slots := #[] }
  | rng {a b c t u v} : OR α (.rng a b c) { cls := .type "range", dict := none, data := .fields #[.int a t, .int b u, .int c v], slots := #[] }
  | tab {ps : Array Value} : TriplesOk ps.toList → OR α .tab { cls := .none, dict := none, data := .fields ps, slots := #[] }

theorem VR.mono {α α' : List Addr} (h : α <+: α') {v v'} (x : VR α v v') : VR α' v v' := by
  obtain ⟨r, rfl⟩ := h
  cases x with
  | none => exact .none
  | bool b => exact .bool b
  | int i t => exact .int i t
  | ref k a hk => exact .ref k a (by rw [List.getElem?_append_left (List.getElem?_eq_some_iff.mp hk).1]; exact hk)
theorem VRs.mono {α α' : List Addr} (h : α <+: α') : ∀ {v v'}, VRs α v v' → VRs α' v v'
  | _, _, .nil => .nil
  | _, _, .cons x r => .cons (x.mono h) (VRs.mono h r)
theorem OR.mono {α α' : List Addr} (h : α <+: α') {o o'} (x : OR α o o') : OR α' o o' := by
  cases x with
  | list r => exact .list (r.mono h)
  | tup r => exact .tup (r.mono h)
  | ba r => exact .ba r
  | rng => exact .rng
  | tab h => exact .tab h
theorem OR.notFreed {α : List Addr} {o o'} (x : OR α o o') : o'.isFreed = false := by cases x <;> rfl

theorem VRs.length {α : List Addr} : ∀ {xs vs}, VRs α xs vs → vs.length = xs.length
  | _, _, .nil => rfl
  | _, _, .cons _ r => by simp [VRs.length r]
theorem VRs.get {α : List Addr} : ∀ {xs vs}, VRs α xs vs → ∀ {i : Nat} {v}, xs[i]? = some v → ∃ v', vs[i]? = some v' ∧ VR α v v'
  | _, _, .nil, i, v, h => by simp at h
  | _, _, .cons x r, 0, v, h => by simp at h; subst h; exact ⟨_, rfl, x⟩
  | _, _, .cons x r, i + 1, v, h => by simp at h; simpa using VRs.get r h
theorem VRs.get' {α : List Addr} : ∀ {xs vs}, VRs α xs vs → ∀ {i : Nat} {v'}, vs[i]? = some v' → ∃ v, xs[i]? = some v ∧ VR α v v'
  | _, _, .nil, i, v, h => by simp at h
  | _, _, .cons x r, 0, v, h => by simp at h; subst h; exact ⟨_, rfl, x⟩
  | _, _, .cons x r, i + 1, v, h => by simp at h; simpa using VRs.get' r h
theorem VRs.set {α : List Addr} : ∀ {xs vs}, VRs α xs vs → ∀ {i : Nat} {v v'}, VR α v v' → VRs α (xs.set i v) (vs.set i v')
  | _, _, .nil, _, _, _, _ => by simpa using VRs.nil
  | _, _, .cons x r, 0, v, v', h => .cons h r
  | _, _, .cons x r, i + 1, v, v', h => .cons x (VRs.set r h)
theorem VRs.append {α : List Addr} : ∀ {xs vs ys ws}, VRs α xs vs → VRs α ys ws → VRs α (xs ++ ys) (vs ++ ws)
  | _, _, _, _, .nil, h => h
  | _, _, _, _, .cons x r, h => .cons x (VRs.append r h)
theorem VRs.take {α : List Addr} : ∀ {xs vs}, VRs α xs vs → ∀ n, VRs α (xs.take n) (vs.take n)
  | _, _, .nil, n => by simpa using VRs.nil
  | _, _, .cons x r, 0 => .nil
  | _, _, .cons x r, n + 1 => .cons x (VRs.take r n)
theorem VRs.drop {α : List Addr} : ∀ {xs vs}, VRs α xs vs → ∀ n, VRs α (xs.drop n) (vs.drop n)
  | _, _, .nil, n => by simpa using VRs.nil
  | _, _, .cons x r, 0 => .cons x r
  | _, _, .cons x r, n + 1 => VRs.drop r n

structure Cx where
  prog : Program
  w : World
  A : Around
  env : Env
  W : Heap
  nf : Nat
  names : List Str
  fz : List Addr
  os : OsState

structure COk (C : Cx) : Prop where
  hk : C.env.scope.kind = .function
  nd : C.names.Nodup
  hh : C.A.handled = none
  apart : C.env.cells.Pairwise fun x y => x.2 ≠ y.2
  lne : ∀ n c, (n, c) ∈ C.env.cells → C.env.locals ≠ c ∧ C.W.objs.size ≤ c
  aboveW : C.W.objs.size ≤ C.env.locals

/-- own addresses of the frame: its locals and its cells -/
noncomputable def Own (C : Cx) (b : Addr) : Prop := b = C.env.locals ∨ ∃ x, C.env.cells.lookup x = some b

abbrev Base := Addr → Option Obj
structure Rel (C : Cx) (B : Base) (α : List Addr) (loc : Loc) (H : Hp) (s : Shared) : Prop where
  len : α.length = H.length
  nd : α.Nodup
  obj : ∀ (k : Nat) mo, H[k]? = some mo → ∃ a o, α[k]? = some a ∧ s.heap.get? a = some o ∧ OR α mo o
  keep : ∀ b o, B b = some o → s.heap.get? b = some o ∧ b ∉ α ∧ ¬ Own C b
  keepW : ∀ b o, C.W.get? b = some o → s.heap.get? b = some o
  lo : ∀ b ∈ α.drop C.nf, C.W.objs.size ≤ b
  nf : C.nf ≤ α.length
  fz : C.fz <+: α
  offL : C.env.locals ∉ α
  offC : ∀ x c, C.env.cells.lookup x = some c → c ∉ α
  ns : ∃ m, s.heap.Ns C.env.locals m ∧ ∀ (i : Nat) x v, C.names[i]? = some x → loc[i]? = some (some v) → C.env.kindOf x = some .local → ∃ v', m x = some v' ∧ VR α v v'
  cl : ∀ x c, C.env.cells.lookup x = some c → ∃ ov, s.heap.IsCell c ov ∧ ∀ (i : Nat) v, C.names[i]? = some x → loc[i]? = some (some v) → ∃ v', ov = some v' ∧ VR α v v'
  os : s.os = C.os
  gens : AllBare s.gens

variable {C : Cx} {B : Base} {α : List Addr} {loc : Loc} {H : Hp} {s : Shared}

/-- the heap has grown, all that stood stands -/
theorem Rel.ext (R : Rel C B α loc H s) {s' : Shared} (hk : ∀ b o, s.heap.get? b = some o → s'.heap.get? b = some o) (ho : s'.os = s.os) (hg : s'.gens = s.gens) : Rel C B α loc H s' where
  len := R.len
  nd := R.nd
  obj := fun k mo e => let ⟨a, o, h1, h2, h3⟩ := R.obj k mo e; ⟨a, o, h1, hk _ _ h2, h3⟩
  keep := fun b o e => ⟨hk _ _ (R.keep b o e).1, (R.keep b o e).2⟩
  keepW := fun b o e => hk _ _ (R.keepW b o e)
  lo := R.lo
  nf := R.nf
  fz := R.fz
  offL := R.offL
  offC := R.offC
  ns := let ⟨m, h1, h2⟩ := R.ns; ⟨m, h1.keeps hk, h2⟩
  cl := fun x c e => let ⟨ov, h1, h2⟩ := R.cl x c e; ⟨ov, h1.keeps hk, h2⟩
  os := ho.trans R.os
  gens := by rw [hg]; exact R.gens

theorem Rel.tok (R : Rel C B α loc H s) (t : Nat) : Rel C B α loc H { s with toks := t } := R.ext (fun _ _ e => e) rfl rfl

theorem prefix_snoc (α : List Addr) (a : Addr) : α <+: α ++ [a] := ⟨[a], rfl⟩

/-- a new object, tracked -/
theorem Rel.alloc (K : COk C) (R : Rel C B α loc H s) {s' : Shared} {a : Addr} {mo : O} {o : Obj} (hk : ∀ b o, s.heap.get? b = some o → s'.heap.get? b = some o) (ho : s'.os = s.os) (hg : s'.gens = s.gens)
    (ha : s'.heap.get? a = some o) (hn : s.heap.objs.size ≤ a) (hr : OR α mo o) : Rel C B (α ++ [a]) loc (H ++ [mo]) s' := by
  have R' := R.ext hk ho hg
  have hlt : ∀ b o', s.heap.get? b = some o' → b ≠ a := fun b o' e q => Nat.lt_irrefl _ (Nat.lt_of_lt_of_le (q ▸ Heap.lt_size e) hn)
  have hna : a ∉ α := fun hm => by
    obtain ⟨k, hk'⟩ := List.getElem?_of_mem hm
    have hkl : k < H.length := R.len ▸ (List.getElem?_eq_some_iff.mp hk').1
    obtain ⟨b, o', h1, h2, _⟩ := R.obj k _ (List.getElem?_eq_getElem hkl)
    rw [hk'] at h1; cases h1
    exact hlt _ _ h2 rfl
  have hdrop : (α ++ [a]).drop C.nf = α.drop C.nf ++ [a] := List.drop_append_of_le_length R.nf
  refine { len := by simp [R.len], nd := ?_, obj := ?_, keep := ?_, keepW := R'.keepW, lo := ?_, nf := by rw [List.length_append]; exact Nat.le_trans R.nf (Nat.le_add_right _ _), fz := R.fz.trans (prefix_snoc _ _), offL := ?_, offC := ?_, ns := ?_, cl := ?_, os := R'.os, gens := R'.gens }
  · rw [List.nodup_append]
    exact ⟨R.nd, by simp, fun x hx y hy => by simp at hy; subst hy; exact fun q => hna (q ▸ hx)⟩
  · intro k mo' e
    by_cases hkl : k < H.length
    · rw [List.getElem?_append_left hkl] at e
      obtain ⟨b, o', h1, h2, h3⟩ := R'.obj k mo' e
      exact ⟨b, o', by rw [List.getElem?_append_left (by rw [R.len]; exact hkl)]; exact h1, h2, h3.mono (prefix_snoc _ _)⟩
    · rw [List.getElem?_append_right (Nat.le_of_not_lt hkl)] at e
      have hk0 : k - H.length = 0 := by
        cases hq : k - H.length with
        | zero => rfl
        | succ n => rw [hq] at e; simp at e
      rw [hk0] at e; simp at e; subst e
      refine ⟨a, o, ?_, ha, hr.mono (prefix_snoc _ _)⟩
      rw [List.getElem?_append_right (by rw [R.len]; exact Nat.le_of_not_lt hkl), R.len, hk0]; rfl
  · intro b o' e
    refine ⟨(R'.keep b o' e).1, fun hm => ?_, (R.keep b o' e).2.2⟩
    rcases List.mem_append.mp hm with h | h
    · exact (R.keep b o' e).2.1 h
    · simp at h; exact hlt b o' (R.keep b o' e).1 h
  · intro b hb
    rw [hdrop] at hb
    rcases List.mem_append.mp hb with h | h
    · exact R.lo b h
    · simp at h; subst h
      obtain ⟨m, ⟨oL, _, _, hL, _⟩, _⟩ := R.ns
      exact Nat.le_trans K.aboveW (Nat.le_trans (Nat.le_of_lt (Heap.lt_size hL)) hn)
  · intro hm
    rcases List.mem_append.mp hm with h | h
    · exact R.offL h
    · simp at h
      obtain ⟨m, ⟨oL, _, _, hL, _⟩, _⟩ := R.ns
      exact hlt _ _ hL h
  · intro x c e hm
    rcases List.mem_append.mp hm with h | h
    · exact R.offC x c e h
    · simp at h
      obtain ⟨ov, ⟨oc, hc, _⟩, _⟩ := R.cl x c e
      exact hlt _ _ hc h
  · obtain ⟨m, h1, h2⟩ := R'.ns
    exact ⟨m, h1, fun i x v e1 e2 e3 => let ⟨v', q1, q2⟩ := h2 i x v e1 e2 e3; ⟨v', q1, q2.mono (prefix_snoc _ _)⟩⟩
  · intro x c e
    obtain ⟨ov, h1, h2⟩ := R'.cl x c e
    exact ⟨ov, h1, fun i v e1 e2 => let ⟨v', q1, q2⟩ := h2 i v e1 e2; ⟨v', q1, q2.mono (prefix_snoc _ _)⟩⟩
end Mine

namespace Mine
open PySem PySem.W PyProof.Rows PySem.Calls

theorem owner_ba : Manifest.owners.lookup (String.ofList ['y', 'a', 'r', 'r', 'a', 'e', 't', 'y', 'b'].reverse) = some Manifest.sig_bytearray := by kernel_rfl
theorem slot_ba_getitem : Slot "bytearray" "__getitem__" "bytearray.__getitem__" :=
  .of (owner := "bytearray") (n := "__getitem__") (by rw [typeLookup_type, builtinLookup_eq_fast]; kernel_rfl) (by decide +kernel) (by decide +kernel) (by decide +kernel)
    (by first | exact .inl (by decide +kernel) | exact .inr (by decide +kernel)) (by rw [isSubtype_type]; kernel_rfl)
theorem entry_ba_getitem : entryFor table "bytearray.__getitem__" = some Builtin.«bytearray.__getitem__» := entryFor_of_tree (by kernel_rfl)
theorem args_ba_getitem (a b : Value) : argsOk "bytearray.__getitem__" ⟨[a, b], []⟩ := by
  unfold argsOk; rw [signature?_of (id := "bytearray.__getitem__") (n := ['_', '_', 'm', 'e', 't', 'i', 't', 'e', 'g', '_', '_']) (o := ['y', 'a', 'r', 'r', 'a', 'e', 't', 'y', 'b']) (by kernel_rfl) owner_ba]; kernel_rfl
theorem slot_ba_setitem : Slot "bytearray" "__setitem__" "bytearray.__setitem__" :=
  .of (owner := "bytearray") (n := "__setitem__") (by rw [typeLookup_type, builtinLookup_eq_fast]; kernel_rfl) (by decide +kernel) (by decide +kernel) (by decide +kernel)
    (by first | exact .inl (by decide +kernel) | exact .inr (by decide +kernel)) (by rw [isSubtype_type]; kernel_rfl)
theorem entry_ba_setitem : entryFor table "bytearray.__setitem__" = some Builtin.«bytearray.__setitem__» := entryFor_of_tree (by kernel_rfl)
theorem args_ba_setitem (a b c : Value) : argsOk "bytearray.__setitem__" ⟨[a, b, c], []⟩ := by
  unfold argsOk; rw [signature?_of (id := "bytearray.__setitem__") (n := ['_', '_', 'm', 'e', 't', 'i', 't', 'e', 's', '_', '_']) (o := ['y', 'a', 'r', 'r', 'a', 'e', 't', 'y', 'b']) (by kernel_rfl) owner_ba]; kernel_rfl

abbrev baObj (b : Array UInt8) : Obj := { cls := .type "bytearray", dict := none, data := .bytearray b 0, slots := #[] }

section
variable {prog : Program} {w : World} {A : Around} {E : Value → Shared → Prop} {s : Shared}

theorem baSubscript {k : Int} {t : Tok} {Q : Option Int → Shared → Prop} (h0 : -(2 ^ 63) ≤ k) (h1 : k < 2 ^ 63) (h : Q (some k) s) :
    wpAny (model prog w) A (Builtin.Bytes.subscript? (.int k t)) Q E s := by
  unfold Builtin.Bytes.subscript?
  refine wpAny_bind (wpAny_specialOf (T := "int") (typeIs_int s k t) int_index ?_)
  show wpAny _ A (asIndex (.int k t) >>= _) Q E s
  refine wpAny_bind (wpAny_of_eq (a := k) rfl ?_)
  show wpAny _ A (if (!Builtin.Bytes.fitsIndex k) = true then _ else _) Q E s
  rw [if_neg (by unfold Builtin.Bytes.fitsIndex; simp; omega)]
  exact wpAny_pure h

theorem baPayload {a : Addr} {b : Array UInt8} {Q : Array UInt8 → Shared → Prop} (ho : s.heap.get? a = some (baObj b)) (h : Q b s) :
    wpAny (model prog w) A (Builtin.Bytes.payload (.ref a)) Q E s := by
  unfold Builtin.Bytes.payload Builtin.Bytes.payload?
  refine wpAny_bind (wpAny_bind (wpAny_load ho ?_))
  exact wpAny_pure (wpAny_pure h)

theorem getItem_ba {a : Addr} {b : Array UInt8} {k : Int} {t : Tok} {j : Nat} {x : UInt8} {Q : Value → Shared → Prop} (ho : s.heap.get? a = some (baObj b))
    (h0 : -(2 ^ 63) ≤ k) (h1 : k < 2 ^ 63) (hj : seqIndex? k b.size = some j) (hx : b[j]? = some x) (h : Q (.int x.toNat s.toks) { s with toks := s.toks + 1 }) :
    wpAny (model prog w) A (getItem (.ref a) (.int k t)) Q E s := by
  have hT : s.TypeIs (.ref a) "bytearray" := ⟨_, ho, rfl⟩
  unfold getItem
  refine wpAny_holding ?_
  refine wpAny_bind (wpAny_sequenceKey hT (by decide) ?_)
  refine wpAny_bind (wpAny_callSpecial?_slot (name := Str.ofString "__getitem__") hT slot_ba_getitem
    (wpAny_call_entry slot_ba_getitem hT entry_ba_getitem ?_ (args_ba_getitem _ _)))
  show wpAny _ _ (Builtin.Bytes.subscript? (.int k t) >>= _) _ _ s
  refine wpAny_bind (baSubscript h0 h1 ?_)
  show wpAny _ _ (Builtin.Bytes.payload (.ref a) >>= _) _ _ s
  refine wpAny_bind (baPayload ho ?_)
  rw [hj]
  show wpAny _ _ (match b[j]? with | some x => _ | none => _) _ _ s
  rw [hx]
  exact wpAny_bind (wpAny_mkInt (wpAny_pure ⟨_, rfl, wpAny_pure h⟩))

theorem baWrite {a : Addr} {b : Array UInt8} {f : Array UInt8 → Array UInt8} {Q : Unit → Shared → Prop} (ho : s.heap.get? a = some (baObj b)) (hz : (f b).size ≤ sizeLine)
    (h : ∀ h', h'.get? a = some (baObj (f b)) → Heap.SameBut a s.heap h' → Q () { s with heap := h' }) :
    wpAny (model prog w) A (Builtin.Bytes.write (.ref a) f) Q E s := by
  show wpAny _ _ (updateBytearray a f) _ _ s
  unfold updateBytearray
  refine wpAny_bind (wpAny_load ho ?_)
  refine wpAny_bind (wpAny_update ho ?_)
  have hs : (s.heap.update a (Obj.mapBytearray f)).get? a = some (baObj (f b)) := Heap.get?_update_self _ ho rfl
  refine wpAny_lookBehind hs ?_ (h _ hs (Heap.SameBut.update ..))
  show (if (f b).size > sizeLine then some "bytearray:memory" else none) = none
  rw [if_neg (Nat.not_lt.mpr hz)]

theorem setItem_ba {a : Addr} {b : Array UInt8} {k x : Int} {t u : Tok} {j : Nat} {Q : Unit → Shared → Prop} (ho : s.heap.get? a = some (baObj b))
    (h0 : -(2 ^ 63) ≤ k) (h1 : k < 2 ^ 63) (hj : seqIndex? k b.size = some j) (hx0 : 0 ≤ x) (hx1 : x < 256) (hz : b.size ≤ sizeLine)
    (h : ∀ h', h'.get? a = some (baObj (b.setIfInBounds j x.toNat.toUInt8)) → Heap.SameBut a s.heap h' → Q () { s with heap := h' }) :
    wpAny (model prog w) A (setItem (.ref a) (.int k t) (.int x u)) Q E s := by
  have hT : s.TypeIs (.ref a) "bytearray" := ⟨_, ho, rfl⟩
  unfold setItem
  refine wpAny_holding ?_
  refine wpAny_bind (wpAny_sequenceKey hT (by decide) ?_)
  refine wpAny_bind (wpAny_callSpecial?_slot (name := Str.ofString "__setitem__") hT slot_ba_setitem
    (wpAny_call_entry slot_ba_setitem hT entry_ba_setitem ?_ (args_ba_setitem _ _ _)))
  show wpAny _ _ (Builtin.Bytes.subscript? (.int k t) >>= _) _ _ s
  refine wpAny_bind (baSubscript h0 h1 ?_)
  show wpAny _ _ (Builtin.Bytes.byteValue (.int x u) >>= _) _ _ s
  unfold Builtin.Bytes.byteValue
  refine wpAny_bind (wpAny_bind (wpAny_of_eq (a := x) rfl ?_))
  rw [if_neg (by simp; omega)]
  refine wpAny_pure ?_
  show wpAny _ _ (Builtin.Bytes.payload (.ref a) >>= _) _ _ s
  refine wpAny_bind (baPayload ho ?_)
  rw [hj]
  refine wpAny_bind (baWrite ho (by simpa using hz) fun h' hn hs => ?_)
  exact wpAny_pure ⟨_, rfl, wpAny_pure (h h' hn hs)⟩
end
end Mine

namespace Mine
open PySem PySem.W PyProof.Rows PySem.Calls

/-- the codes that `exported` looks for -/
noncomputable def badIds : List String := ["bytearray.__contains__", "bytearray.__mod__", "bytearray.__rmod__", "_struct.pack_into.held", "bytearray.find.held"] ++ Builtin.Bytes.decodersThatHold
noncomputable def okCode : Code → Bool
  | .builtin id _ => !badIds.contains id
  | _ => true
structure Clean (Γ : Ctx) : Prop where
  here : okCode Γ.code = true
  below : ∀ c ∈ Γ.below, okCode c.1 = true

theorem Clean.enter {Γ : Ctx} (h : Clean Γ) {c : Code} (hc : okCode c = true) (hd : Option Value) (p : Pos) : Clean (Γ.enter c hd p) :=
  ⟨hc, fun x hx => by
    have hx' : x ∈ (Γ.code, p) :: Γ.below := hx
    rcases List.mem_cons.mp hx' with rfl | hx'
    · exact h.here
    · exact h.below x hx'⟩
theorem Clean.goto {Γ : Ctx} (h : Clean Γ) {c : Code} (hc : okCode c = true) : Clean (Γ.goto c) := ⟨hc, h.below⟩

noncomputable def wpC {α : Type} (M : Model) (A : Around) (t : Sem α) (Q : α → Shared → Prop) (E : Value → Shared → Prop) (s : Shared) : Prop :=
  ∀ Γ p, Γ.In A → Clean Γ → Sem.wp M Γ t (fun a _ s' => Q a s') (fun e _ s' => E e s') p s
noncomputable def codeC (M : Model) (A : Around) (c : Code) (R : Result → Shared → Prop) (s : Shared) : Prop :=
  ∀ Γ p, Γ.code = c → Γ.Below A → Clean Γ → wpCode M Γ R p s

section
variable {α β : Type} {M : Model} {A : Around} {E : Value → Shared → Prop} {s : Shared}

theorem wpC_of {t : Sem α} {Q : α → Shared → Prop} (h : wpAny M A t Q E s) : wpC M A t Q E s := fun Γ p hΓ _ => h Γ p hΓ
theorem codeC_of {c : Code} {R : Result → Shared → Prop} (h : codeAny M A c R s) : codeC M A c R s := fun Γ p hc hΓ _ => h Γ p hc hΓ
theorem wpC_pure {a : α} {Q : α → Shared → Prop} (h : Q a s) : wpC M A (pure a) Q E s := fun _ _ _ _ => h
theorem wpC_throw {e : Value} {Q : α → Shared → Prop} (h : E e s) : wpC M A (throw e : Sem α) Q E s := fun _ _ _ _ => h
theorem wpC_mono {t : Sem α} {Q Q' : α → Shared → Prop} {E' : Value → Shared → Prop} (h : wpC M A t Q E s)
    (hQ : ∀ a s, Q a s → Q' a s) (hE : ∀ e s, E e s → E' e s) : wpC M A t Q' E' s :=
  fun Γ p hΓ hc => Sem.wp_mono M Γ t (fun a _ s => hQ a s) (fun e _ s => hE e s) p s (h Γ p hΓ hc)
theorem wpC_bind {m : Sem α} {f : α → Sem β} {Q : β → Shared → Prop} (h : wpC M A m (fun a s' => wpC M A (f a) Q E s') E s) : wpC M A (m >>= f) Q E s := fun Γ p hΓ hc => by
  rw [Sem.wp_bind']
  exact Sem.wp_mono M Γ m (fun a p' s' h' => h' Γ p' hΓ hc) (fun _ _ _ h' => h') p s (h Γ p hΓ hc)
theorem wpC_of_eq {m : Sem α} {a : α} {Q : α → Shared → Prop} (e : m = pure a) (h : Q a s) : wpC M A m Q E s := by subst e; exact wpC_pure h
theorem wpC_onRaise {m : Sem α} {k : Value → Sem Unit} {Q : α → Shared → Prop}
    (h : wpC M A m Q (fun e s' => wpC M A (k e) (fun _ s'' => E e s'') E s') s) : wpC M A (m.onRaise k) Q E s := fun Γ p hΓ hc => by
  rw [Sem.wp_onRaise]
  exact Sem.wp_mono M Γ m (fun _ _ _ h' => h') (fun e p' s' h' => h' Γ p' hΓ hc) p s (h Γ p hΓ hc)
theorem wpC_tryCatch {m : Sem α} {k : Value → Sem α} {Q : α → Shared → Prop} (h : wpC M A m Q (fun e s' => wpC M A (k e) Q E s') s) :
    wpC M A (tryCatch m k) Q E s := fun Γ p hΓ hc => by
  rw [Sem.wp_tryCatch']
  exact Sem.wp_mono M Γ m (fun _ _ _ h' => h') (fun e p' s' h' => h' Γ p' hΓ hc) p s (h Γ p hΓ hc)
theorem wpC_attempt {m : Sem α} {Q : Except Value α → Shared → Prop} (h : wpC M A m (fun a => Q (.ok a)) (fun e => Q (.error e)) s) :
    wpC M A m.attempt Q E s := fun Γ p hΓ hc => by rw [Sem.wp_attempt]; exact h Γ p hΓ hc
theorem wpC_holding {vs : List Value} {m : Sem α} {Q : α → Shared → Prop} (h : wpC M A m Q E s) : wpC M A (holding vs m) Q E s :=
  fun Γ p hΓ hc => by rw [Sem.wp_holding]; exact h Γ p hΓ hc
theorem wpC_keep {vs : List Value} {m : Sem α} {Q : α → Shared → Prop} (h : wpC M A m Q E s) : wpC M A (m.keep vs) Q E s :=
  fun Γ p hΓ hc => by rw [Sem.wp_keep]; exact h Γ p hΓ hc
theorem wpC_operate {vs : List Value} {m : Sem Value} {Q : Value → Shared → Prop} (h : wpC M A m Q E s) : wpC M A (operate vs m) Q E s :=
  fun Γ p hΓ hc => by rw [Sem.wp_operate]; exact h Γ p hΓ hc
theorem wpC_standAt {pos : Pos} {Q : Unit → Shared → Prop} (h : Q () s) : wpC M A (standAt pos) Q E s := fun _ _ _ _ => h
theorem wpC_rule {tag : String} {Q : Unit → Shared → Prop} (h : Q () s) : wpC M A (rule tag) Q E s := fun _ _ _ _ => h
theorem wpC_point {Q : Unit → Shared → Prop} (h : Q () s) : wpC M A point Q E s := wpC_of (wpAny_point h)
theorem wpC_in1 {t : Sem α} {Q : α → Shared → Prop} (h : wpC M A.in1 t Q E s) : wpC M A t Q E s :=
  fun Γ p hΓ hc => h Γ p ⟨hΓ.1, hΓ.2.1, hΓ.2.2.1, hΓ.2.2.2.1, Nat.le_succ_of_le hΓ.2.2.2.2⟩ hc

theorem codeC_mono {c : Code} {R R' : Result → Shared → Prop} (h : codeC M A c R s) (hR : ∀ r s, R r s → R' r s) : codeC M A c R' s :=
  fun Γ p hc hΓ hl => wpCode_mono hR (h Γ p hc hΓ hl)
theorem wpC_run {c : Code} {h : Option Value} {Q : Flow → Shared → Prop} (ok : okCode c = true)
    (hc : codeC M (A.mark h) c (fun r s' => match r with | .ok f => Q f s' | .error e => E e s') s) (hnb : h ≠ some byPass := by intro x; cases x) :
    wpC M A (run c h) Q E s :=
  fun Γ p hΓ hl => by rw [Sem.wp_run]; exact hc _ p rfl (hΓ.enter c h p hnb) (hl.enter ok h p)
theorem wpC_runValue {c : Code} {Q : Value → Shared → Prop} (ok : okCode c = true)
    (hc : codeC M A c (fun r s' => match r with | .ok (.ret v) => Q v s' | .ok _ => False | .error e => E e s') s) :
    wpC M A (runValue c) Q E s := fun Γ p hΓ hl => by rw [Sem.wp_runValue]; exact hc _ p rfl (hΓ.enter c none p (by intro x; cases x)) (hl.enter ok none p)
theorem wpC_call {f : Value} {pos : List Value} {kw : List (Str × Value)} {Q : Value → Shared → Prop}
    (hc : codeC M A (.call f ⟨pos, kw⟩) (fun r s' => match r with | .ok (.ret v) => Q v s' | .ok _ => False | .error e => E e s') s) :
    wpC M A (call f pos kw) Q E s := wpC_runValue rfl hc

theorem codeC_of_tree {c : Code} {R : Result → Shared → Prop}
    (h : wpC M (A.under c) (M.den c) (fun fin s' => match fin with | .done f => R (.ok f) s' | .again c' => c'.quiet = true ∧ okCode c' = true ∧ codeC M A c' R s')
      (fun e s' => R (.error e) s') s) : codeC M A c R s := fun Γ p hc hΓ hl => by
  rw [wpCode_iff_wp, hc]
  refine Sem.wp_mono M Γ _ (fun fin p' s' h' => ?_) (fun _ _ _ h' => h') p s (h Γ p (hc ▸ hΓ.in) hl)
  cases fin with
  | done f => exact h'
  | again c' => exact ⟨h'.1, h'.2.2 (Γ.goto c') p' rfl (hΓ.goto c') (hl.goto h'.2.1)⟩

theorem wpC_exported {v : Value} {Q : Bool → Shared → Prop} (h : Q false s) : wpC M A (Builtin.Bytes.exported v) Q E s := fun Γ p _ hl => by
  unfold Builtin.Bytes.exported
  show Q _ s
  refine Eq.mpr (congrArg (fun b => Q b s) (List.any_eq_false.mpr ?_)) h
  rintro ⟨c, q⟩ hm hx
  have hc : okCode c = true := by
    rcases List.mem_cons.mp hm with e | hm
    · cases e; exact hl.here
    · exact hl.below _ hm
  split at hx
  · rename_i e; cases e; exact absurd (show (!badIds.contains "bytearray.__contains__") = true from hc) (by decide +kernel)
  · rename_i e; cases e; exact absurd (show (!badIds.contains "bytearray.__mod__") = true from hc) (by decide +kernel)
  · rename_i e; cases e; exact absurd (show (!badIds.contains "bytearray.__rmod__") = true from hc) (by decide +kernel)
  · rename_i e; cases e; exact absurd (show (!badIds.contains "_struct.pack_into.held") = true from hc) (by decide +kernel)
  · rename_i e; cases e; exact absurd (show (!badIds.contains "bytearray.find.held") = true from hc) (by decide +kernel)
  · rename_i e
    cases e
    have h2 := (Bool.and_eq_true_iff.mp hx).2
    have h1 : (!badIds.contains _) = true := hc
    unfold badIds at h1
    rw [Bool.not_eq_true', List.contains_eq_mem, decide_eq_false_iff_not] at h1
    rw [List.contains_eq_mem, decide_eq_true_iff] at h2
    exact h1 (List.mem_append_right _ h2)
  · exact Bool.false_ne_true hx
end
end Mine

namespace MineH
open PySem PySem.W PyProof.Rows PySem.Calls Mine

abbrev topCtx : Ctx := ⟨.builtin "claim.caller" {}, none, none, [], none⟩
theorem topCtx_clean : Clean topCtx := ⟨by decide +kernel, fun _ h => nomatch h⟩

theorem thread_clean {prog : Program} {w : World} {t : Sem Fin} {s : Shared} {R : Result → Shared → Prop} (hreg : s.asleep)
    (h : wpC (model prog w) callerA t (fun fin s' => ∃ f, fin = .done f ∧ (R (.ok f) s' ∧ leftWithCleanup s'.gens = false)) (fun e s' => R (.error e) s' ∧ leftWithCleanup s'.gens = false) s) :
    ∃ n r s' s'', runN (denote table) prog w n s ⟨t, .builtin "claim.caller" {}, default, []⟩ = .halted (outcomeOf r) s' ∧
      schedN (denote table) prog w n (.single s ⟨t, .builtin "claim.caller" {}, default, []⟩) = .halted (outcomeOf r) s' ∧ s'.forget = s''.forget ∧ R r s'' := by
  have h' : Sem.wp (model prog w) topCtx t (Sem.finPost (model prog w) topCtx fun r s' => R r s' ∧ leftWithCleanup s'.gens = false)
      (fun e _ s' => R (.error e) s' ∧ leftWithCleanup s'.gens = false) default s := by
    refine Sem.wp_mono _ _ t (fun fin p' s' hf => ?_) (fun _ _ _ x => x) default s (h topCtx default caller_in topCtx_clean)
    obtain ⟨f, rfl, hf⟩ := hf
    exact hf
  obtain ⟨n, r, s₁, s₂, hs, hn, hfo, hR⟩ := wp_halts_full (M := model prog w) (R := R) hreg h'
  exact ⟨n, r, s₂, s₁, hn, hs, hfo, hR⟩

theorem callFrom_clean {c : ClaimW} {tree : List Value → Sem Fin} {w : World} {s : Shared} {free : Addr → Prop} {gens : Prop} {kept : Heap → Prop} (hz : s.asleep) (hgens : s.gens = #[])
    (hspec : ∀ args, c.pre args = true → WData.layableAll args = true →
      ∀ ord : List DictEntry → List DictEntry, (∀ l, (ord l).Perm l) →
      ∃ vs s₁, layAllW c.records (classAt s.heap) w.params ord args s = some (vs, s₁) ∧
        wpC (model c.prog w) callerA (tree vs) (fun fin s' => ∃ f, fin = .done f ∧ (c.Ends s args vs s₁ (.ok f) s' ∧ s'.os = s.os ∧ AllBare s'.gens ∧ kept s'.heap))
          (fun e s' => c.Ends s args vs s₁ (.error e) s' ∧ s'.os = s.os ∧ AllBare s'.gens ∧ kept s'.heap) s₁) :
    c.CallFrom (fun vs => ⟨tree vs, .builtin "claim.caller" {}, default, []⟩) w free gens kept s := by
  intro args hpre hlay ord hord
  obtain ⟨vs, s₁, hlaid, hcode⟩ := hspec args hpre hlay ord hord
  have hal := layAllW_rest _ _ _ hlaid
  obtain ⟨k, r, s', s'', hrun, hsched, hfo, hcase, hos, hkp⟩ := thread_clean (prog := c.prog) (w := w) (t := tree vs) (s := s₁)
    (R := fun r s' => c.Ends s args vs s₁ r s' ∧ s'.os = s.os ∧ kept s'.heap)
    (Shared.asleep_of_life hal.2.2.2 hz)
    (wpC_mono hcode (by
      rintro fin s' ⟨f, e, h1, h2, h3, h4⟩
      exact ⟨f, e, ⟨h1, h2, h4⟩, leftWithCleanup_false_of_bare h3⟩) (by
      rintro e s' ⟨h1, h2, h3, h4⟩
      exact ⟨⟨h1, h2, h4⟩, leftWithCleanup_false_of_bare h3⟩))
  obtain ⟨eh, _, _, eo, _⟩ := Shared.forget_eq hfo
  have hcase := hcase.congr eh
  have hkp : kept s'.heap := by rw [eh]; exact hkp
  rw [← eo] at hos
  have hlife : s'.heap.life = s.heap.life := (runN_life _ _ _ hrun).trans hal.2.2.2
  refine ⟨vs, s₁, hlaid, k, _, s', hsched, ?_, (fun _ i x hx => by rw [hgens] at hx; simp at hx), hkp, by rw [hlife], Shared.rest_eq hos⟩
  rcases hcase with ⟨v, rfl, d1, d2, d3, d4, d5⟩ | ⟨e, ob, cls, rfl, d1, d2, d3, d4, d5⟩
  · exact .inl ⟨v, rfl, d1, d2, d3, fun b o y _ => d4 b o y, d5⟩
  · exact .inr ⟨e, ob, cls, rfl, d1, d2, d3, d4, fun b o y _ => d5 b o y⟩

/-- the walk that is asked of a law whose call makes bytearrays: for clean stacks alone -/
abbrev WalkClean (q : Program) (loose : List Str) (XP : (Str → Option Value) → Heap → Prop) (YP : World → Heap → Prop) (r : RowW) (d : DefRec) (kwd : List (Str × Expr)) : Prop :=
  ∀ (w : World) (s₀ s₁ : Shared) (mg mb : Str → Option Value), Ground q loose r.records XP w s₀ mg mb s₁.heap → YP w s₁.heap → ∀ (a : Addr) (o : Obj) (pm cd doc dV kV : Value), s₁.heap.get? a = some o →
    o.data = .func { docDef d.name d.params d.body d.scope pm cd doc with defaults := dV, kwdefaults := kV } → s₁.heap.CodeRec cd d.name → Dflts mg s₁.heap d.params kwd dV kV → mg d.name = some (.ref a) → s₁.gens = #[] →
    ∀ (args : List WData) (vals : List Value) (as : List Addr), r.claim.pre args = true → WData.layableAll args = true → ReadsAllW r.records (classAt s₀.heap) s₁.heap vals args as → WellAll w.params s₁.heap vals args → (∀ a ∈ as, (a == sysModules) = false) →
      wpC (model r.prog w) callerA (PySem.call (.ref a) vals) (fun v s' => GoodWG r.claim (classAt s₀.heap) (ExcName.means s₀.heap) args s₁ (.ok (.ret v)) s')
        (fun e s' => GoodWG r.claim (classAt s₀.heap) (ExcName.means s₀.heap) args s₁ (.error e) s') s₁

theorem PySem.W.holds_open {r : OpenRow} {q : Program} {loose : List Str} {Xt : Shared → Bool} {XP : (Str → Option Value) → Heap → Prop} {α : Type} {Yf : Shared → α} {Ya : World → α} {YP : World → Heap → Prop} {d : DefRec} {kwd : List (Str × Expr)} {N : Nat}
    (left0 : ∀ w, (openEnds treeTable r.prog w N).map (fun s => (openSeen q loose (importedModules r.prog.main.body) Xt true s, Yf s)) = some (openGood q loose, Ya w)) (hY : ∀ w s, Yf s = Ya w → YP w s.heap) (hYk : ∀ w h h', YP w h → (∀ b o, h.get? b = some o → h'.get? b = some o) → YP w h')
    (hX : ∀ s, Xt s = true → XP (s.heap.nsMap mainGlobals) s.heap) (hXk : ∀ mg h h', XP mg h → (∀ b o, h.get? b = some o → h'.get? b = some o) → XP mg h')
    (hdef : defOf q r.name = some (d, kwd)) (hp : r.prog.theDef r.name = some (d.params, d.body, d.scope)) (hk : kwWritten? d.params.kwonlyargs d.params.kw_defaults = some kwd) (hRf : ∀ s, Xt s = true → RecFacts r.records s.heap) (hwr : (!r.writes || r.records.isEmpty) = true)
    (k1 : r.wellSaid = true) (ok : (chainsOk q && opensWell r.prog && (frees r.toRowW && r.within.isEmpty)) = true) (hb : r.prog.bare) (hw : r.toRowW.promised)
    (call : WalkClean q loose XP YP r.toRowW d kwd) : r.Holds := by
  have left : LeftO r.prog q loose Xt Yf Ya N := left0
  refine ⟨k1, hw, ?_⟩
  obtain ⟨ok, k5⟩ := Bool.and_eq_true_iff.mp ok
  obtain ⟨hch, o1⟩ := Bool.and_eq_true_iff.mp ok
  obtain ⟨k5, k6⟩ := Bool.and_eq_true_iff.mp k5
  obtain ⟨hsame, hu, ha, hap, hm⟩ := frees_parts k5
  refine ⟨⟨hb, o1, by show r.toRowW.makers.map _ = []; rw [hm]; rfl⟩, hw.witness, fun w => ⟨(left.behind hX hch w).1, fun s' hs' => ?_⟩⟩
  obtain ⟨s₀, hf, hg0, s, hT, hz, hgens, hg, G00, y⟩ := (left.behind (XP := fun mg h => XP mg h ∧ RecFacts r.records h) (fun s hs => ⟨hX s hs, hRf s hs⟩) hch w).2 s' hs'
  have G0 : Ground q loose [] XP w s (s.heap.nsMap mainGlobals) (s.heap.nsMap builtinsNs) s.heap := ⟨G00.T, G00.B, G00.D, G00.TE, G00.TD, G00.W, G00.X.1, G00.cls, G00.has, G00.apart, G00.once, G00.K⟩
  have RF := G00.X.2
  have hT' := hT
  refine ⟨s₀, hf, hg0, s, hT, ?_, RF.1, RF.2.1, ?_⟩
  · intro n hn
    obtain rfl : n = r.name := by split at hn <;> simp_all
    exact pinned_of_view hg G0 hdef hp hk
  have hgens : s.gens = #[] := Array.eq_empty_of_size_eq_zero (beq_iff_eq.mp hgens)
  have G : Ground q loose r.records XP w s _ _ s.heap := RF.ground G0
  refine callFrom_clean (c := r.toRowW.claim) hz hgens fun args hpre hlay ord hord => ?_
  obtain ⟨⟨vs, s₁⟩, hlaid⟩ := Option.isSome_iff_exists.mp (layAllW_isSome (P := w.params) (ord := ord) G.has args r.args s (pre_splitW hpre).1)
  have keeps := layAllW_keeps _ _ _ hlaid
  have hal := layAllW_rest _ _ _ hlaid
  obtain ⟨as, hrd, hin, hold⟩ := reads_layAllW hord _ _ _ hlaid hlay s₁.heap (fun _ _ e => e)
  have L : Laid r.records w s s₁ args vs as := ⟨⟨ord, hord, hlaid⟩, hrd, hin, hold, keeps, hal.1.trans hgens, hal.2.2.1⟩
  have G₁ := G.keeps hXk keeps
  obtain ⟨a, o, pm, cd, doc, dV, kV, h1, h2, h3, h4, h5⟩ := G₁.fn hdef
  have h := call w s s₁ _ _ G₁ (hYk _ _ _ (hY w s y) keeps) a o pm cd doc dV kV h2 h3 h4 h5 (defOf_name hdef ▸ h1) L.gens args vs as hpre hlay L.reads L.well (L.low G.low)
  have hi := ident_freeW hu ha hap
  have hwi : r.toRowW.claim.within = [] := List.isEmpty_iff.mp k6
  refine ⟨vs, s₁, hlaid, ?_⟩
  refine wpC_bind (wpC_of (wpAny_nsGet G₁.T.g ?_))
  rw [h1]
  refine wpC_bind (wpC_mono h (fun v s' g => wpC_pure ⟨_, rfl, ?_⟩) fun e s' g => ?_)
  · have z := g.laid (c := r.toRowW.claim) hsame hwi hi L
    exact ⟨z.1, z.2.1, z.2.2, fun q => ⟨namesKept_of hT' hg _ keeps g.2.1.old, noTable hwr q⟩⟩
  · have z := g.laid (c := r.toRowW.claim) hsame hwi hi L
    exact ⟨z.1, z.2.1, z.2.2, fun q => ⟨namesKept_of hT' hg _ keeps g.2.1.old, noTable hwr q⟩⟩

end MineH

/-! the head, run once more lightly: it leaves the heap's objects and the view of the text as definitions, and proves nothing -/
namespace MineF
open _root_.PySem _root_.PySem.W PyProof.Rows _root_.PySem.Calls Mine
class Box (p : outParam Prop) : Prop where
  go : p
noncomputable def Kept {p : Prop} (_ : Box p) (q : Prop) : Prop := q
theorem PySem.W.holds_open {r : OpenRow} {q : Program} {loose : List Str} {Xt : Shared → Bool} {XP : (Str → Option Value) → Heap → Prop} {α : Type} {Yf : Shared → α} {Ya : World → α} {YP : World → Heap → Prop} {d : DefRec} {kwd : List (Str × Expr)} {N : Nat}
    (left : ∀ _ : World, (0 : Nat) = 0) (hY : ∀ w s, Yf s = Ya w → YP w s.heap) (hYk : ∀ w h h', YP w h → (∀ b o, h.get? b = some o → h'.get? b = some o) → YP w h')
    (hX : ∀ s, Xt s = true → XP (s.heap.nsMap mainGlobals) s.heap) (hXk : ∀ mg h h', XP mg h → (∀ b o, h.get? b = some o → h'.get? b = some o) → XP mg h')
    (hdef : defOf q r.name = some (d, kwd)) (hp : r.prog.theDef r.name = some (d.params, d.body, d.scope)) (hk : kwWritten? d.params.kwonlyargs d.params.kw_defaults = some kwd) (hRf : ∀ s, Xt s = true → RecFacts r.records s.heap) (hwr : (!r.writes || r.records.isEmpty) = true)
    (k1 : r.wellSaid = true) (ok : (chainsOk q && opensWell r.prog && (frees r.toRowW && r.within.isEmpty)) = true) (hb : r.prog.bare) (hw : r.toRowW.promised) {p : Prop} [keep : Box p]
    (call : Kept keep r.Holds) : r.Holds := call
theorem saidL : _root_.PySem.Challenge.rw_im0115_01.wellSaid = true := by kernel_rfl
set_option maxHeartbeats 8000000 in
noncomputable def hd : {T : Prop // Box T → _root_.PySem.Challenge.rw_im0115_01.Holds} := by
  refine' ⟨_, _⟩
  rotate_left
  intro hw0
  w_on
  refine holds_law saidL fun said => ?_
  k_head
  case hw => w_witness2
  unfold Kept
  exact hw0.go
end MineF

namespace MineH
open _root_.PySem _root_.PySem.W PyProof.Rows _root_.PySem.Calls Mine

/-- the heap's objects that the walk looks at -/
noncomputable def heapK (P : Params) : Frag := (MineF.hd.heap_1 P).filter fun p => [3, 15, 16, 17, 18, 19, 20, 21, 22, 23, 24, 30, 31, 37, 38, 44, 45, 46, 52, 53, 59, 60, 64, 65, 71, 72, 76, 77].contains p.1
/-- these, and make_matrix's code table -/
noncomputable def frag2 (P : Params) : Frag := (48, { cls := .none, data := .fields #[] }) :: heapK P
abbrev Asked : Prop := WalkClean MineF.hd.view_1 [Str.ofString "make_matrix"] (XL MineF.hd.view_1 []) (kHook frag2
    [48, 3, 15, 16, 17, 18, 19, 20, 21, 22, 23, 24, 30, 31, 37, 38, 44, 45, 46, 52, 53, 59, 60, 64, 65, 71, 72, 76, 77] (fun _ => by kernel_rfl)).says _root_.PySem.Challenge.rw_im0115_01.row.toRowW ((defOf MineF.hd.view_1 "law").get (by decide +kernel)).1 []
end MineH

namespace Mine
open PySem PySem.W PyProof.Rows PySem.Calls

section
variable {M : Model} {A : Around} {E : Value → Shared → Prop} {s : Shared} {env : Env}

theorem wpC_then {α : Type} {t : Sem α} {Q Q' : α → Shared → Prop} (h : wpC M A t Q E s) (hQ : ∀ a s, Q a s → Q' a s) : wpC M A t Q' E s := wpC_mono h hQ fun _ _ x => x

theorem wpC_bindName {x : Str} {v : Value} {Q : Unit → Shared → Prop} (h : wpC M A (storeName env x v) Q E s) : wpC M A (bindName env x v) Q E s :=
  fun Γ p hΓ hc => by rw [Sem.wp_bindName]; exact h Γ p hΓ hc

theorem C_BinOp {l op r pos} {Q : Value → Shared → Prop} (h : wpC M A (eval l env) (fun a s₁ => wpC M A (eval r env) (fun b s₂ => wpC M A (binaryOp op a b) Q E s₂) E s₁) E s) :
    wpC M A (eval (.BinOp l op r pos) env) Q E s := by
  rw [eval_BinOp]
  exact wpC_bind (wpC_then h fun a s₁ h₁ => wpC_bind (wpC_holding (wpC_then h₁ fun b s₂ h₂ => wpC_bind (wpC_standAt (wpC_operate h₂)))))
theorem C_Compare1 {l op r pos} {Q : Value → Shared → Prop} (h : wpC M A (eval l env) (fun a s₁ => wpC M A (eval r env) (fun b s₂ => wpC M A (compareOp op a b) Q E s₂) E s₁) E s)
    (hm : behindInMarks op r = false) : wpC M A (eval (.Compare l [op] [r] pos) env) Q E s := by
  rw [eval_Compare1, markedBehindIn_of_false hm]
  exact wpC_bind (wpC_then h fun a s₁ h₁ => wpC_bind (wpC_holding (wpC_then h₁ fun b s₂ h₂ => wpC_bind (wpC_standAt (wpC_operate h₂)))))
theorem C_isTrue_Compare1 {l op r pos whole} {Q : Bool → Shared → Prop}
    (h : wpC M A (eval l env) (fun a s₁ => wpC M A (eval r env) (fun b s₂ => wpC M A (compareOp op a b) (fun c s₃ => wpC M A (truthy c) Q E s₃) E s₂) E s₁) E s)
    (hm : behindInMarks op r = false) : wpC M A (isTrue (.Compare l [op] [r] pos) env whole) Q E s := by
  rw [isTrue_Compare1, markedBehindIn_of_false hm]
  exact wpC_bind (wpC_then h fun a s₁ h₁ => wpC_bind (wpC_holding (wpC_then h₁ fun b s₂ h₂ => wpC_bind (wpC_standAt (wpC_bind (wpC_operate (wpC_then h₂ fun c s₃ h₃ => wpC_holding h₃)))))))
theorem C_UnaryOp {op x pos} {Q : Value → Shared → Prop} (h : wpC M A (eval x env) (fun v s₁ => wpC M A (unaryOp op v) Q E s₁) E s) :
    wpC M A (eval (.UnaryOp op x pos) env) Q E s := by
  rw [arm_eval_UnaryOp]
  exact wpC_bind (wpC_then h fun v s₁ h₁ => wpC_bind (wpC_standAt (wpC_holding h₁)))
theorem C_IfExp {test body orelse pos} {Q : Value → Shared → Prop}
    (h : wpC M A (isTrue test env (eval test env)) (fun c s₂ => if c then wpC M A (eval body env) Q E s₂ else wpC M A (eval orelse env) Q E s₂) E s) :
    wpC M A (eval (.IfExp test body orelse pos) env) Q E s := by
  rw [arm_eval_IfExp]
  exact wpC_bind (wpC_then h fun c s₂ h₂ => by cases c <;> exact h₂)
theorem C_And {e₁ e₂ rest pos} {Q : Value → Shared → Prop}
    (h : wpC M A (eval e₁ env) (fun v s₁ => wpC M A (truthy v) (fun c s₂ => if c then wpC M A (eval (.BoolOp .And (e₂ :: rest) pos) env) Q E s₂ else Q v s₂) E s₁) E s) :
    wpC M A (eval (.BoolOp .And (e₁ :: e₂ :: rest) pos) env) Q E s := by
  show wpC M A (do
    let v ← eval e₁ env
    standAt pos
    let c ← holding [v] (truthy v)
    match BoolOp.And, c with
    | .And, false | .Or, true => pure v
    | _, _ => boolOp pos .And (eval e₂ env :: evalEach rest env)) Q E s
  refine wpC_bind (wpC_then h fun v s₁ h₁ => wpC_bind (wpC_standAt (wpC_bind (wpC_holding (wpC_then h₁ fun c s₂ h₂ => ?_)))))
  cases c with
  | false => exact wpC_pure h₂
  | true => exact h₂
theorem C_And_one {e pos} {Q : Value → Shared → Prop} (h : wpC M A (eval e env) Q E s) : wpC M A (eval (.BoolOp .And [e] pos) env) Q E s := h
theorem C_isTrue_not {x pos whole} {Q : Bool → Shared → Prop} (h : wpC M A (isTrue x env (eval x env)) (fun c s' => Q (!c) s') E s) :
    wpC M A (isTrue (.UnaryOp .Not x pos) env whole) Q E s := by
  show wpC M A (do return !(← isTrue x env (eval x env))) Q E s
  exact wpC_bind (wpC_then h fun c s' h' => wpC_pure h')
theorem C_isTrue_and_nil {pos whole} {Q : Bool → Shared → Prop} (h : Q true s) : wpC M A (isTrue (.BoolOp .And [] pos) env whole) Q E s := wpC_pure (a := true) h
theorem C_isTrue_and {x rest pos whole} {Q : Bool → Shared → Prop}
    (h : wpC M A (isTrue x env (eval x env)) (fun c s' => if c then wpC M A (isTrue (.BoolOp .And rest pos) env whole) Q E s' else Q false s') E s) :
    wpC M A (isTrue (.BoolOp .And (x :: rest) pos) env whole) Q E s := by
  show wpC M A (do
    match BoolOp.And, ← isTrue x env (eval x env) with
    | .And, false => pure false
    | .Or, true => pure true
    | _, _ => allTrue .And rest env) Q E s
  refine wpC_bind (wpC_then h fun c s' h' => ?_)
  cases c with
  | false => exact wpC_pure h'
  | true => exact h'
theorem C_isTrue_plain {e : Expr} {whole : Sem Value} {Q : Bool → Shared → Prop} (h : wpC M A whole (fun v s₁ => wpC M A (truthy v) Q E s₁) E s)
    (he : isTrue e env whole = (do let v ← whole; standAt e.pos; holding [v] (truthy v))) : wpC M A (isTrue e env whole) Q E s := by
  rw [he]
  exact wpC_bind (wpC_then h fun v s₁ h₁ => wpC_bind (wpC_standAt (wpC_holding h₁)))

theorem C_spliced_nil {pos : Pos} {Q : List Value → Shared → Prop} (h : Q [] s) : wpC M A (spliced (backTo pos (starEach [] env))) Q E s := wpC_pure h
theorem C_spliced_raw {x : Sem Value} {rest : List (Bool × Sem Value)} {Q : List Value → Shared → Prop}
    (h : wpC M A x (fun v s₁ => wpC M A (spliced rest) (fun vs s₂ => Q (v :: vs) s₂) E s₁) E s) : wpC M A (spliced ((false, x) :: rest)) Q E s := by
  rw [spliced]
  refine wpC_bind (wpC_then h fun v s₁ h₁ => ?_)
  simp only [Bool.false_eq_true, if_false]
  exact wpC_bind (wpC_pure (wpC_bind (wpC_holding (wpC_then h₁ fun vs s₂ h₂ => wpC_pure h₂))))
theorem C_spliced_cons {e : Expr} {rest : List Expr} {pos : Pos} {Q : List Value → Shared → Prop}
    (h : wpC M A (eval e env) (fun v s₁ => wpC M A (spliced (backTo pos (starEach rest env))) (fun vs s₂ => Q (v :: vs) s₂) E s₁) E s)
    (he : starEach (e :: rest) env = (false, eval e env) :: starEach rest env) : wpC M A (spliced (backTo pos (starEach (e :: rest) env))) Q E s := by
  rw [he]; exact C_spliced_raw h
theorem C_List {elts : List Expr} {pos : Pos} {Q : Value → Shared → Prop}
    (h : wpC M A (spliced (backTo pos (starEach elts env))) (fun vs s₁ => wpC M A (newList vs) Q E s₁) E s) : wpC M A (eval (.List elts pos) env) Q E s := by
  rw [arm_eval_List]; exact wpC_bind (wpC_standAt (wpC_bind h))
theorem C_Tuple {elts : List Expr} {k : Nat} {pos : Pos} {Q : Value → Shared → Prop}
    (h : wpC M A (spliced (backTo pos (starEach elts env))) (fun vs s₁ => wpC M A (newTuple vs) Q E s₁) E s) : wpC M A (eval (.Tuple elts k pos) env) Q E s := by
  rw [arm_eval_Tuple]; exact wpC_bind (wpC_standAt (wpC_bind h))

theorem C_evalArgs {f : Value} {x : Sem Value} {rest : List (Bool × Sem Value)} {Q : Args → Shared → Prop}
    (h : wpC M A (spliced ((false, x) :: rest)) (fun vs s' => Q ⟨vs, []⟩ s') E s) : wpC M A (evalArgs f true ((false, x) :: rest) []) Q E s := by
  unfold evalArgs
  show wpC M A (spliced ((false, x) :: rest) >>= _) Q E s
  refine wpC_bind (wpC_then h fun vs s' h' => ?_)
  refine wpC_holding ?_
  exact wpC_bind (wpC_pure (wpC_bind (wpC_pure (wpC_pure h'))))
theorem C_evalArgs_nil {f : Value} {Q : Args → Shared → Prop} (h : Q ⟨[], []⟩ s) : wpC M A (evalArgs f true [] []) Q E s := wpC_of (PyProof.Rows.evalArgs_none h)

theorem C_callWith_builtin {pos : Pos} {id : String} {first : List Value} {args : List (Bool × Sem Value)} {Q : Value → Shared → Prop} (hplain : args.any (·.1) = false)
    (h : wpC M A (evalArgs (.builtin id) true args []) (fun a s₁ => wpC M A (call (.builtin id) (first ++ a.pos) a.kw) Q E s₁) E s) :
    wpC M A (callWith pos (.builtin id) first args []) Q E s := by
  unfold callWith
  refine wpC_bind (wpC_holding (wpC_then h fun a s₁ h₁ => wpC_bind (wpC_standAt ?_)))
  simp only [hplain, List.any_nil, Bool.or_false]
  refine wpC_bind (wpC_pure ?_)
  exact wpC_bind (wpC_then h₁ fun r s₂ hr => wpC_bind (wpC_holding (wpC_point (wpC_pure hr))))
theorem C_callWith_type {pos : Pos} {T : String} {first : List Value} {args : List (Bool × Sem Value)} {Q : Value → Shared → Prop} (hplain : args.any (·.1) = false)
    (h : wpC M A (evalArgs (.type T) true args []) (fun a s₁ => wpC M A (call (.type T) (first ++ a.pos) a.kw) Q E s₁) E s) :
    wpC M A (callWith pos (.type T) first args []) Q E s := by
  unfold callWith
  refine wpC_bind (wpC_holding (wpC_then h fun a s₁ h₁ => wpC_bind (wpC_standAt ?_)))
  simp only [hplain, List.any_nil, Bool.or_false]
  refine wpC_bind (wpC_pure ?_)
  exact wpC_bind (wpC_then h₁ fun r s₂ hr => wpC_bind (wpC_holding (wpC_point (wpC_pure hr))))
theorem C_callWith_function {pos : Pos} {a : Addr} {o : Obj} {fd : FuncData} {first : List Value} {args : List (Bool × Sem Value)} {Q : Value → Shared → Prop}
    (h : wpC M A (evalArgs (.ref a) true args []) (fun x s₁ => (s₁.heap.get? a = some o ∧ o.data = .func fd) ∧ wpC M A (call (.ref a) (first ++ x.pos) x.kw) Q E s₁) E s) :
    wpC M A (callWith pos (.ref a) first args []) Q E s := by
  unfold callWith
  refine wpC_bind (wpC_holding (wpC_then h fun x s₁ h₁ => wpC_bind (wpC_standAt ?_)))
  have tail : ∀ {t : Sem Value}, wpC M A t Q E s₁ → wpC M A (t >>= fun r => holding [r] point >>= fun _ => pure r) Q E s₁ :=
    fun ht => wpC_bind (wpC_then ht fun r s₂ hr => wpC_bind (wpC_holding (wpC_point (wpC_pure hr))))
  cases hs : args.any (·.1) <;> simp only [List.any_nil, Bool.or_false] <;>
    refine wpC_bind (m := keeperOf (.ref a)) ?_ <;> unfold keeperOf <;>
    refine wpC_bind (wpC_of (wpAny_load h₁.1.1 ?_)) <;> rw [h₁.1.2] <;> refine wpC_pure ?_
  · dsimp only
    split <;> first
      | exact tail h₁.2
      | exact tail (by unfold callMarked; exact wpC_keep h₁.2)
  · first
      | exact tail (by unfold callMarked; exact wpC_keep h₁.2)
      | exact tail h₁.2

theorem C_Call {func : Expr} {args : List Expr} {pos : Pos} {Q : Value → Shared → Prop}
    (h : wpC M A (eval func env) (fun f s₁ => wpC M A (callWith pos f [] (backTo pos (starEach args env)) []) Q E s₁) E s)
    (he : eval (.Call func args [] pos) env = (do callWith pos (← eval func env) [] (backTo pos (starEach args env)) (backToKw pos (keywordEach [] env)))) :
    wpC M A (eval (.Call func args [] pos) env) Q E s := by
  rw [he]; exact wpC_bind h
theorem C_Subscript {value slice pos} {Q : Value → Shared → Prop}
    (h : wpC M A (eval value env) (fun o s₁ => wpC M A (eval slice env) (fun i s₂ => wpC M A (subscriptTail value slice o i) Q E s₂) E s₁) E s) :
    wpC M A (eval (.Subscript value slice pos) env) Q E s := by
  rw [eval_Subscript]
  exact wpC_bind (wpC_then h fun o s₁ h₁ => wpC_bind (wpC_holding (wpC_then h₁ fun i s₂ h₂ => wpC_bind (wpC_standAt h₂))))

/-! statements -/
theorem C_execs_nil {Q : Flow → Shared → Prop} (h : Q .next s) : wpC M A (execs [] env) Q E s := wpC_pure h
theorem C_execs_cons {st rest} {Q : Flow → Shared → Prop}
    (h : wpC M A (exec st env) (fun f s' => match f with | .next => wpC M A (execs rest env) Q E s' | f => Q f s') E s) : wpC M A (execs (st :: rest) env) Q E s := by
  rw [execs_cons]
  refine wpC_bind (wpC_then h fun f s' h' => ?_)
  cases f <;> first | exact h' | exact wpC_pure h'
theorem C_If {test body orelse pos} {Q : Flow → Shared → Prop}
    (h : wpC M A (isTrue test env (eval test env)) (fun b s₂ => if b then wpC M A (execs body env) Q E s₂ else wpC M A (execs orelse env) Q E s₂) E s) :
    wpC M A (exec (.If test body orelse pos) env) Q E s := by
  rw [exec_If]
  refine wpC_bind (wpC_standAt (wpC_bind (wpC_then h fun b s₂ h₂ => ?_)))
  cases b <;> exact h₂
theorem C_Return {e pos} {Q : Flow → Shared → Prop} (h : wpC M A (eval e env) (fun v s' => Q (.ret v) s') E s) : wpC M A (exec (.Return (some e) pos) env) Q E s := by
  rw [exec_Return_some]
  exact wpC_bind (wpC_standAt (wpC_bind (wpC_then h fun v s' h' => wpC_pure h')))
theorem C_Assign_Name {x pos' value pos} {Q : Flow → Shared → Prop}
    (h : wpC M A (eval value env) (fun v s₁ => wpC M A (storeName env x v) (fun _ => Q .next) E s₁) E s)
    (hs : swapsWith value (some (.Name x pos')) pos.line env = pure false) : wpC M A (exec (.Assign [.Name x pos'] value pos) env) Q E s := by
  rw [exec_Assign_Name env x pos' value pos hs]
  refine wpC_bind (wpC_standAt (wpC_bind (wpC_then h fun v s₁ h₁ => wpC_bind (wpC_standAt (wpC_bind (wpC_bindName (wpC_then h₁ fun _ _ q => wpC_pure q)))))))

theorem C_assign_Subscript {o i pos'} {v : Value} {Q : Unit → Shared → Prop}
    (h : wpC M A (eval o env) (fun ov s₂ => wpC M A (eval i env) (fun iv s₃ => wpC M A (setItem ov iv v) Q E s₃) E s₂) E s) :
    wpC M A (assign (.Subscript o i pos') env v) Q E s := by
  rw [assign_Subscript]
  refine wpC_bind (wpC_holding (wpC_then h fun ov s₂ h₂ => wpC_bind (wpC_holding (wpC_then h₂ fun iv s₃ h₃ => wpC_bind (wpC_standAt (wpC_bind (wpC_holding (wpC_then h₃ fun _ s₄ h₄ => ?_))))))))
  exact fun Γ p _ _ => by rw [Sem.wp_release]; exact h₄
theorem C_Assign1 {t value pos} {Q : Flow → Shared → Prop}
    (h : wpC M A (eval value env) (fun v s₁ => wpC M A (assign t env v) (fun _ => Q .next) E s₁) E s)
    (hs : swapsWithSole [t] value pos.line env = pure false) (hw : swappedStores [t] value env = pure none) (ha : (assignEach [t] env).map (·.2) = [assign t env]) :
    wpC M A (exec (.Assign [t] value pos) env) Q E s := by
  rw [exec_Assign]
  refine wpC_bind (wpC_standAt ?_)
  rw [hs]
  refine wpC_bind (wpC_pure ?_)
  rw [if_neg (by decide)]
  refine wpC_bind (wpC_then h fun v s₁ h₁ => ?_)
  rw [hw]
  refine wpC_bind (wpC_pure ?_)
  rw [ha]
  show wpC M A (do assignAll v [assign t env]; pure .next) Q E s₁
  exact wpC_bind (wpC_then h₁ fun _ _ x => wpC_pure x)
theorem C_AugAssign_Name {x pos' op value pos} {Q : Flow → Shared → Prop}
    (h : wpC M A (loadName env x) (fun old s₁ => wpC M A (eval value env) (fun v s₂ => wpC M A (inplaceOp op old v)
      (fun r s₃ => wpC M A (storeName env x r) (fun _ => Q .next) E s₃) E s₂) E s₁) E s) :
    wpC M A (exec (.AugAssign (.Name x pos') op value pos) env) Q E s := by
  rw [exec_AugAssign_Name]
  exact wpC_bind (wpC_standAt (wpC_bind (wpC_then h fun old s₁ h₁ => wpC_bind (wpC_holding (wpC_then h₁ fun v s₂ h₂ => wpC_bind (wpC_standAt (wpC_bind (wpC_operate (wpC_then h₂ fun r s₃ h₃ =>
    wpC_bind (wpC_standAt (wpC_bind (wpC_bindName (wpC_then h₃ fun _ _ q => wpC_pure q)))))))))))))
theorem C_Expr {e pos} {Q : Flow → Shared → Prop} (h : wpC M A (eval e env) (fun v s' => (∀ a, v ≠ .ref a) ∧ Q .next s') E s)
    (hi : interactive env = false) (hs : swapsWith e none pos.line env = pure false) : wpC M A (exec (.Expr e pos) env) Q E s := by
  rw [exec_Expr env e pos hi hs]
  refine wpC_bind (wpC_standAt (wpC_bind (wpC_then h fun v s' h' => ?_)))
  rw [dropValue_plain h'.1]
  exact wpC_pure h'.2
theorem C_runOwn {c : Code} {Q : Flow → Shared → Prop} (ok : okCode c = true)
    (hc : codeC M A c (fun r s' => match r with | .ok f => Q f s' | .error _ => False) s) : wpC M A (runOwn c env) Q E s := by
  unfold runOwn
  refine wpC_onRaise (wpC_mono (wpC_run (E := fun _ _ => False) ok (codeC_mono (show codeC M (A.mark none) c _ s from hc) fun r s' q => by cases r <;> exact q)) (fun _ _ x => x) fun _ _ x => x.elim)
theorem C_For {target iter body orelse pos} {Q : Flow → Shared → Prop}
    (h : wpC M A (eval iter env) (fun x s₁ => wpC M A (pyIter x) (fun it s₂ =>
      codeC M A (.forLoop target it body orelse env) (fun r s' => match r with | .ok f => Q f s' | .error _ => False) s₂) E s₁) E s)
    (hs : ∀ x, foldedSetIterable iter env x = pure x) : wpC M A (exec (.For target iter body orelse pos) env) Q E s := by
  rw [exec_For]
  refine wpC_bind (wpC_standAt (wpC_bind (wpC_then h fun x s₁ h₁ => wpC_bind (wpC_of_eq (hs x) (wpC_bind (wpC_standAt (wpC_bind (wpC_holding (wpC_then h₁ fun it s₂ h₂ => C_runOwn rfl h₂)))))))))
theorem C_While {test body orelse pos} {Q : Flow → Shared → Prop}
    (hc : codeC M A (.whileLoop test body orelse env) (fun r s' => match r with | .ok f => Q f s' | .error _ => False) s) :
    wpC M A (exec (.While test body orelse pos) env) Q E s := by
  rw [exec_While]
  exact wpC_bind (wpC_standAt (C_runOwn rfl hc))
end

section
variable {prog : Program} {w : World} {A : Around} {s : Shared} {env : Env} {R : Result → Shared → Prop}

theorem codeC_block_nil (h : R (.ok .next) s) : codeC (model prog w) A (.block [] env) R s := by
  refine codeC_of_tree ?_
  rw [Around.under_of_weight (by rfl)]
  show wpC _ _ (do return Fin.done (← (execs [] env).onRaise (fun x => do noteFrame x env; theTreesLotGoes x))) _ _ s
  exact wpC_bind (wpC_onRaise (C_execs_nil (wpC_pure h)))

end
end Mine

namespace Mine
open PySem PySem.W PyProof.Rows PySem.Calls

variable {C : Cx} {B : Base} {α : List Addr} {loc : Loc} {H : Hp} {s : Shared}

theorem VR.ref_inv {k : Nat} {v : Value} (x : VR α (.ref k) v) : ∃ a, v = .ref a ∧ α[k]? = some a := by cases x with | ref _ a h => exact ⟨a, rfl, h⟩
theorem VR.int_inv {i : Int} {v : Value} (x : VR α (.int i) v) : ∃ t, v = .int i t := by cases x with | int _ t => exact ⟨t, rfl⟩
theorem VR.bool_inv {b : Bool} {v : Value} (x : VR α (.bool b) v) : v = .bool b := by cases x; rfl
theorem VR.none_inv {v : Value} (x : VR α .none v) : v = .none := by cases x; rfl

theorem Rel.at (R : Rel C B α loc H s) {k : Nat} {mo a} (e : H[k]? = some mo) (ha : α[k]? = some a) : ∃ o, s.heap.get? a = some o ∧ OR α mo o := by
  obtain ⟨a', o, h1, h2, h3⟩ := R.obj k mo e
  rw [ha] at h1; cases h1; exact ⟨o, h2, h3⟩

theorem Rel.listAt (R : Rel C B α loc H s) {k : Nat} {xs v} (e : H[k]? = some (.list xs)) (hv : VR α (.ref k) v) :
    ∃ a vs n, v = .ref a ∧ α[k]? = some a ∧ s.heap.get? a = some { cls := .type "list", dict := none, data := .seq vs.toArray n, slots := #[] } ∧ VRs α xs vs := by
  obtain ⟨a, rfl, ha⟩ := hv.ref_inv
  obtain ⟨o, ho, hr⟩ := R.at e ha
  cases hr with | list r => exact ⟨a, _, _, rfl, ha, ho, r⟩
theorem Rel.tupAt (R : Rel C B α loc H s) {k : Nat} {xs v} (e : H[k]? = some (.tup xs)) (hv : VR α (.ref k) v) :
    ∃ a vs n, v = .ref a ∧ α[k]? = some a ∧ s.heap.get? a = some { cls := .type "tuple", dict := none, data := .seq vs.toArray n, slots := #[] } ∧ VRs α xs vs := by
  obtain ⟨a, rfl, ha⟩ := hv.ref_inv
  obtain ⟨o, ho, hr⟩ := R.at e ha
  cases hr with | tup r => exact ⟨a, _, _, rfl, ha, ho, r⟩
theorem Rel.baAt (R : Rel C B α loc H s) {k : Nat} {xs v} (e : H[k]? = some (.ba xs)) (hv : VR α (.ref k) v) :
    ∃ a b, v = .ref a ∧ α[k]? = some a ∧ s.heap.get? a = some { cls := .type "bytearray", dict := none, data := .bytearray b 0, slots := #[] } ∧ b.toList.map (·.toNat) = xs := by
  obtain ⟨a, rfl, ha⟩ := hv.ref_inv
  obtain ⟨o, ho, hr⟩ := R.at e ha
  cases hr with | ba r => exact ⟨a, _, rfl, ha, ho, r⟩
theorem Rel.rngAt (R : Rel C B α loc H s) {k : Nat} {a b c v} (e : H[k]? = some (.rng a b c)) (hv : VR α (.ref k) v) :
    ∃ ad t u w, v = .ref ad ∧ α[k]? = some ad ∧ IsRange s.heap ad a b c t u w := by
  obtain ⟨ad, rfl, ha⟩ := hv.ref_inv
  obtain ⟨o, ho, hr⟩ := R.at e ha
  cases hr with | rng => exact ⟨ad, _, _, _, rfl, ha, ho⟩

/-- a tracked object is changed -/
theorem Rel.upd (R : Rel C B α loc H s) {s' : Shared} {k : Nat} {a : Addr} {mo : O} {o : Obj} (ha : α[k]? = some a) (hnf : C.nf ≤ k)
    (hk : ∀ b o, b ≠ a → s.heap.get? b = some o → s'.heap.get? b = some o) (ho : s'.os = s.os) (hg : s'.gens = s.gens)
    (hn : s'.heap.get? a = some o) (hr : OR α mo o) : Rel C B α loc (H.set k mo) s' := by
  have hmem : a ∈ α := List.mem_of_getElem? ha
  have hkl : k < α.length := (List.getElem?_eq_some_iff.mp ha).1
  have hdrop : a ∈ α.drop C.nf := by
    rw [List.mem_iff_getElem?]
    exact ⟨k - C.nf, by rw [List.getElem?_drop, Nat.add_sub_cancel' hnf]; exact ha⟩
  refine { len := by simp [R.len], nd := R.nd, obj := ?_, keep := ?_, keepW := ?_, lo := R.lo, nf := R.nf, fz := R.fz, offL := R.offL, offC := R.offC, ns := ?_, cl := ?_, os := ho.trans R.os, gens := by rw [hg]; exact R.gens }
  · intro j mo' e
    by_cases hj : k = j
    · subst hj
      rw [List.getElem?_set_self (by rw [← R.len]; exact hkl)] at e
      cases e
      exact ⟨a, o, ha, hn, hr⟩
    · rw [List.getElem?_set_ne hj] at e
      obtain ⟨b, o', h1, h2, h3⟩ := R.obj j mo' e
      refine ⟨b, o', h1, hk b o' (fun q => hj ?_) h2, h3⟩
      subst q
      exact (List.getElem?_inj hkl R.nd).mp (ha.trans h1.symm)
  · intro b o' e
    exact ⟨hk b o' (fun q => (R.keep b o' e).2.1 (q ▸ hmem)) (R.keep b o' e).1, (R.keep b o' e).2⟩
  · intro b o' e
    exact hk b o' (fun q => Nat.lt_irrefl _ (Nat.lt_of_lt_of_le (Heap.lt_size e) (R.lo b (q ▸ hdrop)))) (R.keepW b o' e)
  · obtain ⟨m, h1, h2⟩ := R.ns
    exact ⟨m, h1.at' fun o e => hk _ o (fun q => R.offL (q ▸ hmem)) e, h2⟩
  · intro x c e
    obtain ⟨ov, ⟨oc, h1, h1'⟩, h2⟩ := R.cl x c e
    exact ⟨ov, ⟨oc, hk _ _ (fun q => R.offC x c e (q ▸ hmem)) h1, h1'⟩, h2⟩

theorem names_inj {l : List Str} (hn : l.Nodup) {i j : Nat} {x : Str} (hi : l[i]? = some x) (hj : l[j]? = some x) : i = j :=
  (List.getElem?_inj (List.getElem?_eq_some_iff.mp hi).1 hn).mp (hi.trans hj.symm)

theorem set_get {loc : Loc} {i j : Nat} {v w : V} (h : (loc.set i (some v))[j]? = some (some w)) : (i = j ∧ w = v) ∨ (i ≠ j ∧ loc[j]? = some (some w)) := by
  by_cases e : i = j
  · subst e
    by_cases hl : i < loc.length
    · rw [List.getElem?_set_self hl] at h; cases h; exact .inl ⟨rfl, rfl⟩
    · rw [List.getElem?_eq_none (by rw [List.length_set]; exact Nat.le_of_not_lt hl)] at h; cases h
  · rw [List.getElem?_set_ne e] at h; exact .inr ⟨e, h⟩

/-- a local name is bound -/
theorem Rel.stL (K : COk C) (R : Rel C B α loc H s) {s' : Shared} {i : Nat} {x : Str} {v : V} {v' : Value} (hx : C.names[i]? = some x) (hl : C.env.kindOf x = some .local)
    (m : Str → Option Value) (hm : s.heap.Ns C.env.locals m ∧ ∀ (i : Nat) x v, C.names[i]? = some x → loc[i]? = some (some v) → C.env.kindOf x = some .local → ∃ v', m x = some v' ∧ VR α v v')
    (hs : Heap.SameBut C.env.locals s.heap s'.heap) (hn : s'.heap.Ns C.env.locals (fun y => if y = x then some v' else m y))
    (hnc : C.env.cells.lookup x = none) (ho : s'.os = s.os) (hg : s'.gens = s.gens) (hv : VR α v v') : Rel C B α (loc.set i (some v)) H s' := by
  refine { len := R.len, nd := R.nd, obj := ?_, keep := ?_, keepW := ?_, lo := R.lo, nf := R.nf, fz := R.fz, offL := R.offL, offC := R.offC, ns := ⟨_, hn, ?_⟩, cl := ?_, os := ho.trans R.os, gens := by rw [hg]; exact R.gens }
  · intro k mo e
    obtain ⟨a, o, h1, h2, h3⟩ := R.obj k mo e
    exact ⟨a, o, h1, (hs.2 a fun q => R.offL (q ▸ List.mem_of_getElem? h1)).trans h2, h3⟩
  · intro b o e
    exact ⟨(hs.2 b fun q => (R.keep b o e).2.2 (.inl q)).trans (R.keep b o e).1, (R.keep b o e).2⟩
  · intro b o e
    exact (hs.2 b fun q => Nat.lt_irrefl _ (Nat.lt_of_lt_of_le (q ▸ Heap.lt_size e) K.aboveW)).trans (R.keepW b o e)
  · intro j y w hy hw hk
    by_cases e : y = x
    · subst e
      have : i = j := names_inj K.nd hx hy
      rcases set_get hw with ⟨_, rfl⟩ | ⟨hne, _⟩
      · exact ⟨v', by simp, hv⟩
      · exact absurd this hne
    · rcases set_get hw with ⟨rfl, _⟩ | ⟨_, hw⟩
      · rw [hx] at hy; cases hy; exact absurd rfl e
      · obtain ⟨w', h1, h2⟩ := hm.2 j y w hy hw hk
        exact ⟨w', by simp [e, h1], h2⟩
  · intro y c e
    obtain ⟨ov, ⟨oc, h1, h1'⟩, h2⟩ := R.cl y c e
    refine ⟨ov, ⟨oc, (hs.2 c (K.lne y c (mem_of_lookup e)).1.symm).trans h1, h1'⟩, fun j w hy hw => ?_⟩
    rcases set_get hw with ⟨rfl, _⟩ | ⟨_, hw⟩
    · rw [hx] at hy; cases hy; rw [hnc] at e; cases e
    · exact h2 j w hy hw

/-- a cell's name is bound -/
theorem Rel.stC (K : COk C) (R : Rel C B α loc H s) {s' : Shared} {i : Nat} {x : Str} {c : Addr} {v : V} {v' : Value} (hx : C.names[i]? = some x) (hl : C.env.kindOf x ≠ some .local)
    (hc : C.env.cells.lookup x = some c) (hs : Heap.SameBut c s.heap s'.heap) (hn : s'.heap.IsCell c (some v')) (ho : s'.os = s.os) (hg : s'.gens = s.gens) (hv : VR α v v') :
    Rel C B α (loc.set i (some v)) H s' := by
  have hcm := mem_of_lookup hc
  refine { len := R.len, nd := R.nd, obj := ?_, keep := ?_, keepW := ?_, lo := R.lo, nf := R.nf, fz := R.fz, offL := R.offL, offC := R.offC, ns := ?_, cl := ?_, os := ho.trans R.os, gens := by rw [hg]; exact R.gens }
  · intro k mo e
    obtain ⟨a, o, h1, h2, h3⟩ := R.obj k mo e
    exact ⟨a, o, h1, (hs.2 a fun q => R.offC x c hc (q ▸ List.mem_of_getElem? h1)).trans h2, h3⟩
  · intro b o e
    exact ⟨(hs.2 b fun q => (R.keep b o e).2.2 (.inr ⟨x, q ▸ hc⟩)).trans (R.keep b o e).1, (R.keep b o e).2⟩
  · intro b o e
    exact (hs.2 b fun q => Nat.lt_irrefl _ (Nat.lt_of_lt_of_le (q ▸ Heap.lt_size e) (K.lne x c hcm).2)).trans (R.keepW b o e)
  · obtain ⟨m, h1, h2⟩ := R.ns
    refine ⟨m, h1.sameBut hs (K.lne x c hcm).1, fun j y w hy hw hk => ?_⟩
    rcases set_get hw with ⟨rfl, _⟩ | ⟨_, hw⟩
    · rw [hx] at hy; cases hy; exact absurd hk hl
    · exact h2 j y w hy hw hk
  · intro y c' e
    by_cases ey : y = x
    · subst ey
      rw [hc] at e; cases e
      refine ⟨_, hn, fun j w hy hw => ?_⟩
      have : i = j := names_inj K.nd hx hy
      rcases set_get hw with ⟨_, rfl⟩ | ⟨hne, _⟩
      · exact ⟨v', rfl, hv⟩
      · exact absurd this hne
    · obtain ⟨ov, ⟨oc, h1, h1'⟩, h2⟩ := R.cl y c' e
      refine ⟨ov, ⟨oc, (hs.2 c' fun q => ey ?_).trans h1, h1'⟩, fun j w hy hw => ?_⟩
      · subst q; exact name_of_addr K.apart (mem_of_lookup e) hcm
      · rcases set_get hw with ⟨rfl, _⟩ | ⟨_, hw⟩
        · rw [hx] at hy; cases hy; exact absurd rfl ey
        · exact h2 j w hy hw

/-! ## simulation -/
abbrev XF := Loc → Hp → Option (V × Hp)
abbrev TF := Loc → Hp → Option (Bool × Hp)
abbrev LF := Loc → Hp → Option (List V × Hp)
inductive Fl where
  | next | ret (v : V)
  deriving DecidableEq
abbrev SF := Loc → Hp → Option (Fl × Loc × Hp)

inductive FR (α : List Addr) : Fl → Flow → Prop
  | next : FR α .next .next
  | ret {v v'} : VR α v v' → FR α (.ret v) (.ret v')

noncomputable def SimE (C : Cx) (e : Expr) (f : XF) : Prop := ∀ {B α loc H s v H'} {Q : Value → Shared → Prop} {E}, Rel C B α loc H s → f loc H = some (v, H') →
  (∀ α' v' s', α <+: α' → Rel C B α' loc H' s' → VR α' v v' → Q v' s') → wpC (model C.prog C.w) C.A (eval e C.env) Q E s
noncomputable def SimT (C : Cx) (e : Expr) (f : TF) : Prop := ∀ {B α loc H s b H'} {Q : Bool → Shared → Prop} {E}, Rel C B α loc H s → f loc H = some (b, H') →
  (∀ α' s', α <+: α' → Rel C B α' loc H' s' → Q b s') → wpC (model C.prog C.w) C.A (isTrue e C.env (eval e C.env)) Q E s
noncomputable def SimL (C : Cx) (es : List Expr) (f : LF) : Prop := ∀ {B α loc H s vs H'} {Q : List Value → Shared → Prop} {E} {pos}, Rel C B α loc H s → f loc H = some (vs, H') →
  (∀ α' vs' s', α <+: α' → Rel C B α' loc H' s' → VRs α' vs vs' → Q vs' s') → wpC (model C.prog C.w) C.A (spliced (backTo pos (starEach es C.env))) Q E s
noncomputable def SimS (C : Cx) (st : Stmt) (f : SF) : Prop := ∀ {B α loc H s r loc' H'} {Q : Flow → Shared → Prop} {E}, Rel C B α loc H s → f loc H = some (r, loc', H') →
  (∀ α' r' s', α <+: α' → Rel C B α' loc' H' s' → FR α' r r' → Q r' s') → wpC (model C.prog C.w) C.A (exec st C.env) Q E s
noncomputable def SimSs (C : Cx) (sts : List Stmt) (f : SF) : Prop := ∀ {B α loc H s r loc' H'} {Q : Flow → Shared → Prop} {E}, Rel C B α loc H s → f loc H = some (r, loc', H') →
  (∀ α' r' s', α <+: α' → Rel C B α' loc' H' s' → FR α' r r' → Q r' s') → wpC (model C.prog C.w) C.A (execs sts C.env) Q E s

theorem pre_refl (α : List Addr) : α <+: α := ⟨[], List.append_nil _⟩

/-! ### constants and names -/
noncomputable def intX (i : Int) : XF := fun _ H => some (.int i, H)
theorem sim_int {i k pos} : SimE C (.Constant (.int i) k pos) (intX i) := by
  intro B α loc H s v H' Q E R h hQ
  cases h
  exact wpC_of (wpAny_Constant_int (hQ _ _ _ (pre_refl _) (R.tok _) (.int _ _)))
noncomputable def boolX (b : Bool) : XF := fun _ H => some (.bool b, H)
theorem sim_bool {b k pos} : SimE C (.Constant (.bool b) k pos) (boolX b) := by
  intro B α loc H s v H' Q E R h hQ
  cases h
  exact wpC_of (wpAny_Constant_bool (hQ _ _ _ (pre_refl _) R (.bool _)))

noncomputable def varX (i : Nat) : XF := fun loc H => match loc[i]? with
  | some (some v) => some (v, H)
  | _ => none
theorem varX_some {i v H H'} (h : varX i loc H = some (v, H')) : loc[i]? = some (some v) ∧ H' = H := by
  unfold varX at h
  split at h
  · rename_i e; cases h; exact ⟨e, rfl⟩
  · cases h

/-- the place of a name in a list of names, syntactically -/
inductive At : List Str → Str → Nat → Prop
  | here {x l} : At (x :: l) x 0
  | there {x y l i} : At l x i → At (y :: l) x (i + 1)
theorem At.get {l x i} (h : At l x i) : l[i]? = some x := by
  induction h with
  | here => rfl
  | there _ ih => simpa using ih

theorem sim_varL {x pos i} (K : COk C) (hi : At C.names x i) (hl : C.env.kindOf x = some .local) (hd : (x == ("__debug__" : Str)) = false) : SimE C (.Name x pos) (varX i) :=
  by
  intro B α loc H s v H' Q E R h hQ
  obtain ⟨hv, rfl⟩ := varX_some h
  obtain ⟨m, hn, hm⟩ := R.ns
  obtain ⟨v', h1, h2⟩ := hm i x v hi.get hv hl
  exact wpC_of (wpAny_Name (wpAny_loadName_local K.hk hl hn h1 (hQ _ _ _ (pre_refl _) R h2)) hd)
theorem sim_varC {x pos i c} (K : COk C) (hi : At C.names x i) (hl : C.env.kindOf x = some .cell) (hc : C.env.cells.lookup x = some c) (hd : (x == ("__debug__" : Str)) = false) : SimE C (.Name x pos) (varX i) :=
  by
  intro B α loc H s v H' Q E R h hQ
  obtain ⟨hv, rfl⟩ := varX_some h
  obtain ⟨ov, hcell, hm⟩ := R.cl x c hc
  obtain ⟨v', rfl, h2⟩ := hm i v hi.get hv
  exact wpC_of (wpAny_Name (wpAny_loadName_cell K.hk hl hc hcell (hQ _ _ _ (pre_refl _) R h2)) hd)
/-- what a global name holds, whatever the frame has done -/
noncomputable def GlobIs (C : Cx) (x : Str) (P : Value → Prop) : Prop := ∀ (s : Shared) (Q : Value → Shared → Prop) E pos, (∀ b o, C.W.get? b = some o → s.heap.get? b = some o) → (∀ v, P v → Q v s) →
  wpAny (model C.prog C.w) C.A (eval (.Name x pos) C.env) Q E s
theorem sim_gint {x pos i} (K : COk C) (g : GlobIs C x (fun v => ∃ t, v = .int i t)) : SimE C (.Name x pos) (intX i) := by
  intro B α loc H s v H' Q E R h hQ
  cases h
  exact wpC_of (g s Q E pos R.keepW fun v hv => by obtain ⟨t, rfl⟩ := hv; exact hQ _ _ _ (pre_refl _) R (.int _ _))

end Mine

namespace Mine
open PySem PySem.W PyProof.Rows PySem.Calls

variable {C : Cx} {B : Base} {α : List Addr} {loc : Loc} {H : Hp} {s : Shared}

theorem VRs.ints : ∀ {xs : List V} {vs : List Value} {ns : List Int}, VRs α xs vs → xs = ns.map V.int → IntsAre vs ns
  | _, _, [], .nil, _ => .nil
  | _, _, n :: ns, .cons x r, e => by
    simp only [List.map_cons, List.cons.injEq] at e
    obtain ⟨rfl, e⟩ := e
    obtain ⟨t, rfl⟩ := x.int_inv
    exact .cons n t (VRs.ints r e)
  | _, _, n :: ns, .nil, e => by simp at e
  | _, _, [], .cons x r, e => by simp at e

theorem fold_rep (x : Value) : ∀ (n : Nat) (acc : Array Value), List.foldl (fun x1 x2 => x1 ++ x2) acc (List.replicate n #[x]) = acc ++ (List.replicate n x).toArray
  | 0, acc => by simp
  | n + 1, acc => by
    rw [List.replicate_succ, List.foldl_cons, fold_rep x n, List.replicate_succ]
    apply Array.ext'
    simp
theorem VRs.rep {v v'} (h : VR α v v') : ∀ n, VRs α (List.replicate n v) (List.replicate n v')
  | 0 => .nil
  | n + 1 => by rw [List.replicate_succ, List.replicate_succ]; exact .cons h (VRs.rep h n)

noncomputable def binV (op : Operator) (a b : V) (H : Hp) : Option (V × Hp) :=
  match op, a, b with
  | .Add, .int x, .int y => some (.int (x + y), H)
  | .Sub, .int x, .int y => some (.int (x - y), H)
  | .Mult, .int x, .int y => if x.natAbs < 2 ^ 60 then some (.int (x * y), H) else none
  | .FloorDiv, .int x, .int y => if y ≠ 0 ∧ y.natAbs < 1073741824 then some (.int (x.fdiv y), H) else none
  | .Mod, .int x, .int y => if y ≠ 0 then some (.int (x.fmod y), H) else none
  | .BitAnd, .int x, .int y => some (.int (Builtin.bitAnd x y), H)
  | .BitXor, .int x, .int y => some (.int (Builtin.bitXor x y), H)
  | .BitXor, .bool x, .bool y => some (.bool (x != y), H)
  | .Mult, .ref k, .int y => match H[k]? with
    | some (.list [z]) => if 0 < y ∧ y < 1000 then some (.ref H.length, H ++ [.list (List.replicate y.toNat z)]) else none
    | _ => none
  | _, _, _ => none

/-- the end of a rule that makes a new tracked object -/
theorem Rel.made (K : COk C) (R : Rel C B α loc H s) {o : Obj} {mo : O} {tk : Nat} (hr : OR α mo o) :
    α <+: α ++ [s.heap.objs.size] ∧ Rel C B (α ++ [s.heap.objs.size]) loc (H ++ [mo]) { s with heap := s.heap.push o, toks := tk } ∧ VR (α ++ [s.heap.objs.size]) (.ref H.length) (.ref s.heap.objs.size) :=
  ⟨prefix_snoc _ _, R.alloc K (s' := { s with heap := s.heap.push o, toks := tk }) (fun b o' e => Heap.get?_push_of_some _ e) rfl rfl (Heap.get?_push_size _ hr.notFreed) (Nat.le_refl _) hr,
    .ref _ _ (by rw [← R.len, List.getElem?_append_right (Nat.le_refl _), Nat.sub_self]; rfl)⟩

theorem binV_ok (K : COk C) {op : Operator} {a b v : V} {H' : Hp} {va vb : Value} {Q : Value → Shared → Prop} {E} (R : Rel C B α loc H s) (h : binV op a b H = some (v, H')) (ha : VR α a va) (hb : VR α b vb)
    (hQ : ∀ α' v' s', α <+: α' → Rel C B α' loc H' s' → VR α' v v' → Q v' s') : wpAny (model C.prog C.w) C.A (binaryOp op va vb) Q E s := by
  unfold binV at h
  split at h
  · cases h; obtain ⟨t, rfl⟩ := ha.int_inv; obtain ⟨u, rfl⟩ := hb.int_inv
    exact PyProof.Rows.add_int (hQ _ _ _ (pre_refl _) (R.tok _) (.int _ _))
  · cases h; obtain ⟨t, rfl⟩ := ha.int_inv; obtain ⟨u, rfl⟩ := hb.int_inv
    exact PyProof.Rows.sub_int (hQ _ _ _ (pre_refl _) (R.tok _) (.int _ _))
  · split at h
    · rename_i hx; cases h; obtain ⟨t, rfl⟩ := ha.int_inv; obtain ⟨u, rfl⟩ := hb.int_inv
      exact PyProof.Rows.mul_int (hQ _ _ _ (pre_refl _) (R.tok _) (.int _ _)) (IntMulOk.of_left (Nat.le_trans (intBits_le hx) (by decide)))
    · cases h
  · split at h
    · rename_i hx; cases h; obtain ⟨t, rfl⟩ := ha.int_inv; obtain ⟨u, rfl⟩ := hb.int_inv
      exact PyProof.Rows.floordiv_int hx.1 (hQ _ _ _ (pre_refl _) (R.tok _) (.int _ _)) (.inl (PyProof.noPylong_small hx.2))
    · cases h
  · split at h
    · rename_i hx; cases h; obtain ⟨t, rfl⟩ := ha.int_inv; obtain ⟨u, rfl⟩ := hb.int_inv
      exact PyProof.Rows.mod_int' hx (hQ _ _ _ (pre_refl _) (R.tok _) (.int _ _))
    · cases h
  · cases h; obtain ⟨t, rfl⟩ := ha.int_inv; obtain ⟨u, rfl⟩ := hb.int_inv
    exact PyProof.Rows.and_int (hQ _ _ _ (pre_refl _) (R.tok _) (.int _ _))
  · cases h; obtain ⟨t, rfl⟩ := ha.int_inv; obtain ⟨u, rfl⟩ := hb.int_inv
    exact PyProof.Rows.xor_int (hQ _ _ _ (pre_refl _) (R.tok _) (.int _ _))
  · cases h; obtain rfl := ha.bool_inv; obtain rfl := hb.bool_inv
    exact PyProof.Rows.xor_bool (hQ _ _ _ (pre_refl _) R (.bool _))
  · split at h
    · rename_i k y _ z hk
      split at h
      · rename_i hy
        cases h
        obtain ⟨l, vs, n, rfl, hl, ho, rv⟩ := R.listAt hk ha
        obtain ⟨u, rfl⟩ := hb.int_inv
        have hvs : ∃ z', vs = [z'] ∧ VR α z z' := by
          cases rv with | cons x r => cases r; exact ⟨_, rfl, x⟩
        obtain ⟨z', rfl, hz⟩ := hvs
        have hm : OR α (.list (List.replicate y.toNat z)) { cls := .type "list", dict := none, data := .seq (List.foldl (fun x1 x2 => x1 ++ x2) #[] (List.replicate (if ([z'].toArray).isEmpty = true then 0 else y.toNat) [z'].toArray)) 0, slots := #[] } := by
          have e : List.foldl (fun x1 x2 => x1 ++ x2) #[] (List.replicate (if ([z'].toArray).isEmpty = true then 0 else y.toNat) [z'].toArray) = (List.replicate y.toNat z').toArray := by
            rw [if_neg (by simp)]
            have := fold_rep z' y.toNat #[]
            simpa using this
          rw [e]; exact .list (VRs.rep hz _)
        obtain ⟨p1, p2, p3⟩ := R.made K (tk := s.toks) hm
        refine wpAny_binaryOp_repeat_ref (T := "list") (U := "int") (by decide) ⟨_, ho, rfl⟩ (fun s' => typeIs_int s' y u) noFill_list_mul F.fills_int_mul F.slot_int_rmul repeat_list F.slot_int_index.lookup
          (call_meets F.slot_int_rmul (typeIs_int s y u) F.entry_int_rmul (F.args_int_rmul_2 _ _) (int___rmul___int_list y u l [z'].toArray n)
            ⟨ho, rfl, ⟨_, ho, rfl⟩, call_meets F.slot_list_mul ⟨_, ho, rfl⟩ F.entry_list_mul (F.args_list_mul_2 _ _)
              (AutoListH.list___mul___list_int_3 l [z'].toArray n y u (by simp [Builtin.List.listFitsIndex]; omega) (by simp; omega) (by simp [Builtin.List.listTooLong, sizeLine]; omega))
              ⟨ho, hQ _ _ _ p1 p2 p3⟩⟩)
      · cases h
    · cases h
  · cases h

noncomputable def binX (op : Operator) (f g : XF) : XF := fun loc H => match f loc H with
  | none => none
  | some (a, H1) => match g loc H1 with
    | none => none
    | some (b, H2) => binV op a b H2
theorem sim_bin (K : COk C) {l r op pos f g} (h1 : SimE C l f) (h2 : SimE C r g) : SimE C (.BinOp l op r pos) (binX op f g) := by
  intro B α loc H s v H' Q E R h hQ
  unfold binX at h
  split at h
  · cases h
  rename_i a H1 e1
  split at h
  · cases h
  rename_i b H2 e2
  exact C_BinOp (h1 R e1 fun α1 va s1 p1 R1 ra => h2 R1 e2 fun α2 vb s2 p2 R2 rb =>
    wpC_of (binV_ok K R2 h (ra.mono p2) rb fun α3 v3 s3 p3 R3 r3 => hQ _ _ _ ((p1.trans p2).trans p3) R3 r3))

/-! ### comparisons -/
noncomputable def intsOf : List V → Option (List Int)
  | [] => some []
  | .int n :: r => (intsOf r).map (n :: ·)
  | _ => none
theorem intsOf_some : ∀ {xs : List V} {ns : List Int}, intsOf xs = some ns → xs = ns.map V.int
  | [], ns, h => by cases h; rfl
  | .int n :: r, ns, h => by
    simp only [intsOf, Option.map_eq_some_iff] at h
    obtain ⟨a, h1, rfl⟩ := h
    rw [intsOf_some h1]; rfl
  | .none :: r, ns, h => by simp [intsOf] at h
  | .bool _ :: r, ns, h => by simp [intsOf] at h
  | .ref _ :: r, ns, h => by simp [intsOf] at h

noncomputable def cmpV (op : CmpOp) (a b : V) (H : Hp) : Option Bool :=
  match op, a, b with
  | .Eq, .int x, .int y => some (x == y)
  | .NotEq, .int x, .int y => some (x != y)
  | .Lt, .int x, .int y => some (decide (x < y))
  | .LtE, .int x, .int y => some (decide (x ≤ y))
  | .Gt, .int x, .int y => some (decide (y < x))
  | .NotIn, .int x, .ref k => match H[k]? with
    | some (.tup xs) => match intsOf xs with
      | some ns => some (!(ns.any (· == x)))
      | none => none
    | _ => none
  | _, _, _ => none
theorem cmpV_ok {op : CmpOp} {a b : V} {c : Bool} {va vb : Value} {Q : Value → Shared → Prop} {E} (R : Rel C B α loc H s) (h : cmpV op a b H = some c) (ha : VR α a va) (hb : VR α b vb)
    (hQ : Q (.bool c) s) : wpAny (model C.prog C.w) C.A (compareOp op va vb) Q E s := by
  unfold cmpV at h
  split at h
  · cases h; obtain ⟨t, rfl⟩ := ha.int_inv; obtain ⟨u, rfl⟩ := hb.int_inv; exact PyProof.Rows.eq_int hQ
  · cases h; obtain ⟨t, rfl⟩ := ha.int_inv; obtain ⟨u, rfl⟩ := hb.int_inv; exact PyProof.Rows.ne_int hQ
  · cases h; obtain ⟨t, rfl⟩ := ha.int_inv; obtain ⟨u, rfl⟩ := hb.int_inv; exact PyProof.Rows.lt_int hQ
  · cases h; obtain ⟨t, rfl⟩ := ha.int_inv; obtain ⟨u, rfl⟩ := hb.int_inv; exact PyProof.Rows.le_int hQ
  · cases h; obtain ⟨t, rfl⟩ := ha.int_inv; obtain ⟨u, rfl⟩ := hb.int_inv; exact PyProof.Rows.gt_int hQ
  · split at h
    · rename_i x k xs hk
      split at h
      · rename_i ns hn
        cases h
        obtain ⟨t, rfl⟩ := ha.int_inv
        obtain ⟨l, vs, n, rfl, hl, ho, rv⟩ := R.tupAt hk hb
        exact notin_tuple_ints ⟨_, ho, rfl, n, rfl⟩ (by simpa using rv.ints (intsOf_some hn)) hQ
      · cases h
    · cases h
  · cases h

noncomputable def cmpX (op : CmpOp) (f g : XF) : XF := fun loc H => match f loc H with
  | none => none
  | some (a, H1) => match g loc H1 with
    | none => none
    | some (b, H2) => match cmpV op a b H2 with
      | some c => some (.bool c, H2)
      | none => none
noncomputable def cmpT (op : CmpOp) (f g : XF) : TF := fun loc H => match f loc H with
  | none => none
  | some (a, H1) => match g loc H1 with
    | none => none
    | some (b, H2) => match cmpV op a b H2 with
      | some c => some (c, H2)
      | none => none
theorem sim_cmp {l r op pos f g} (h1 : SimE C l f) (h2 : SimE C r g) (hm : behindInMarks op r = false) : SimE C (.Compare l [op] [r] pos) (cmpX op f g) := by
  intro B α loc H s v H' Q E R h hQ
  unfold cmpX at h
  split at h
  · cases h
  rename_i a H1 e1
  split at h
  · cases h
  rename_i b H2 e2
  split at h
  · rename_i c e3
    cases h
    exact C_Compare1 (h1 R e1 fun α1 va s1 p1 R1 ra => h2 R1 e2 fun α2 vb s2 p2 R2 rb =>
      wpC_of (cmpV_ok R2 e3 (ra.mono p2) rb (hQ _ _ _ (p1.trans p2) R2 (.bool _)))) hm
  · cases h
theorem simT_cmp {l r op pos f g} (h1 : SimE C l f) (h2 : SimE C r g) (hm : behindInMarks op r = false) : SimT C (.Compare l [op] [r] pos) (cmpT op f g) := by
  intro B α loc H s v H' Q E R h hQ
  unfold cmpT at h
  split at h
  · cases h
  rename_i a H1 e1
  split at h
  · cases h
  rename_i b H2 e2
  split at h
  · rename_i c e3
    cases h
    exact C_isTrue_Compare1 (h1 R e1 fun α1 va s1 p1 R1 ra => h2 R1 e2 fun α2 vb s2 p2 R2 rb =>
      wpC_of (cmpV_ok R2 e3 (ra.mono p2) rb (wpC_of (wpAny_truthy_bool (hQ _ _ (p1.trans p2) R2))))) hm
  · cases h

/-! ### unary, boolean, conditional -/
noncomputable def negX (f : XF) : XF := fun loc H => match f loc H with
  | some (.int i, H1) => some (.int (-i), H1)
  | _ => none
theorem sim_neg {x pos f} (h1 : SimE C x f) : SimE C (.UnaryOp .USub x pos) (negX f) := by
  intro B α loc H s v H' Q E R h hQ
  unfold negX at h
  split at h
  · rename_i i H1 e1
    cases h
    exact C_UnaryOp (h1 R e1 fun α1 va s1 p1 R1 ra => by
      obtain ⟨t, rfl⟩ := ra.int_inv
      exact wpC_of (PyProof.Rows.neg_int (hQ _ _ _ p1 (R1.tok _) (.int _ _))))
  · cases h
noncomputable def notX (f : XF) : XF := fun loc H => match f loc H with
  | some (.bool b, H1) => some (.bool (!b), H1)
  | _ => none
theorem sim_not {x pos f} (h1 : SimE C x f) : SimE C (.UnaryOp .Not x pos) (notX f) := by
  intro B α loc H s v H' Q E R h hQ
  unfold notX at h
  split at h
  · rename_i i H1 e1
    cases h
    exact C_UnaryOp (h1 R e1 fun α1 va s1 p1 R1 ra => by
      obtain rfl := ra.bool_inv
      exact wpC_of (PyProof.Rows.not_of (wpAny_truthy_bool (hQ _ _ _ p1 R1 (.bool _)))))
  · cases h
noncomputable def andX (f g : XF) : XF := fun loc H => match f loc H with
  | some (.bool true, H1) => g loc H1
  | some (.bool false, H1) => some (.bool false, H1)
  | _ => none
theorem sim_and {x y pos f g} (h1 : SimE C x f) (h2 : SimE C y g) : SimE C (.BoolOp .And [x, y] pos) (andX f g) := by
  intro B α loc H s v H' Q E R h hQ
  unfold andX at h
  split at h
  · rename_i H1 e1
    exact C_And (h1 R e1 fun α1 va s1 p1 R1 ra => by
      obtain rfl := ra.bool_inv
      refine wpC_of (wpAny_truthy_bool ?_)
      exact C_And_one (h2 R1 h fun α2 vb s2 p2 R2 rb => hQ _ _ _ (p1.trans p2) R2 rb))
  · rename_i H1 e1
    cases h
    exact C_And (h1 R e1 fun α1 va s1 p1 R1 ra => by
      obtain rfl := ra.bool_inv
      exact wpC_of (wpAny_truthy_bool (hQ _ _ _ p1 R1 (.bool _))))
  · cases h
noncomputable def iteX (t : TF) (f g : XF) : XF := fun loc H => match t loc H with
  | some (true, H1) => f loc H1
  | some (false, H1) => g loc H1
  | none => none
theorem sim_ite {t x y pos ft f g} (h0 : SimT C t ft) (h1 : SimE C x f) (h2 : SimE C y g) : SimE C (.IfExp t x y pos) (iteX ft f g) := by
  intro B α loc H s v H' Q E R h hQ
  unfold iteX at h
  split at h
  · rename_i H1 e1
    exact C_IfExp (h0 R e1 fun α1 s1 p1 R1 => h1 R1 h fun α2 vb s2 p2 R2 rb => hQ _ _ _ (p1.trans p2) R2 rb)
  · rename_i H1 e1
    exact C_IfExp (h0 R e1 fun α1 s1 p1 R1 => h2 R1 h fun α2 vb s2 p2 R2 rb => hQ _ _ _ (p1.trans p2) R2 rb)
  · cases h

/-! ### tests -/
noncomputable def boolT (f : XF) : TF := fun loc H => match f loc H with
  | some (.bool b, H1) => some (b, H1)
  | _ => none
theorem simT_val {x f} (h1 : SimE C x f) (he : ∀ env whole, isTrue x env whole = (do let v ← whole; standAt x.pos; holding [v] (truthy v))) : SimT C x (boolT f) := by
  intro B α loc H s v H' Q E R h hQ
  unfold boolT at h
  split at h
  · rename_i b H1 e1
    cases h
    exact C_isTrue_plain (h1 R e1 fun α1 va s1 p1 R1 ra => by
      obtain rfl := ra.bool_inv
      exact wpC_of (wpAny_truthy_bool (hQ _ _ p1 R1))) (he _ _)
  · cases h
noncomputable def notT (f : TF) : TF := fun loc H => match f loc H with
  | some (b, H1) => some (!b, H1)
  | none => none
theorem simT_not {x pos f} (h1 : SimT C x f) : SimT C (.UnaryOp .Not x pos) (notT f) := by
  intro B α loc H s v H' Q E R h hQ
  unfold notT at h
  split at h
  · rename_i b H1 e1
    cases h
    exact C_isTrue_not (h1 R e1 fun α1 s1 p1 R1 => hQ _ _ p1 R1)
  · cases h
noncomputable def andT (f g : TF) : TF := fun loc H => match f loc H with
  | some (true, H1) => g loc H1
  | some (false, H1) => some (false, H1)
  | none => none
theorem simT_and {x y pos f g} (h1 : SimT C x f) (h2 : SimT C y g) : SimT C (.BoolOp .And [x, y] pos) (andT f g) := by
  intro B α loc H s v H' Q E R h hQ
  unfold andT at h
  split at h
  · rename_i H1 e1
    exact C_isTrue_and (h1 R e1 fun α1 s1 p1 R1 => C_isTrue_and (h2 R1 h fun α2 s2 p2 R2 => by
      cases v with
      | true => exact C_isTrue_and_nil (hQ _ _ (p1.trans p2) R2)
      | false => exact hQ _ _ (p1.trans p2) R2))
  · rename_i H1 e1
    cases h
    exact C_isTrue_and (h1 R e1 fun α1 s1 p1 R1 => hQ _ _ p1 R1)
  · cases h

/-! ### displays -/
noncomputable def nilL : LF := fun _ H => some ([], H)
noncomputable def consL (f : XF) (g : LF) : LF := fun loc H => match f loc H with
  | none => none
  | some (v, H1) => match g loc H1 with
    | none => none
    | some (vs, H2) => some (v :: vs, H2)
theorem simL_nil : SimL C [] nilL := by
  intro B α loc H s vs H' Q E pos R h hQ
  cases h
  exact C_spliced_nil (hQ _ _ _ (pre_refl _) R .nil)
theorem simL_cons {e es f g} (h1 : SimE C e f) (h2 : SimL C es g) (he : ∀ env, starEach (e :: es) env = (false, eval e env) :: starEach es env) : SimL C (e :: es) (consL f g) := by
  intro B α loc H s vs H' Q E pos R h hQ
  unfold consL at h
  split at h
  · cases h
  rename_i v H1 e1
  split at h
  · cases h
  rename_i ws H2 e2
  cases h
  exact C_spliced_cons (h1 R e1 fun α1 va s1 p1 R1 ra => h2 R1 e2 fun α2 vb s2 p2 R2 rb => hQ _ _ _ (p1.trans p2) R2 (.cons (ra.mono p2) rb)) (he _)
noncomputable def lstX (f : LF) : XF := fun loc H => match f loc H with
  | some (vs, H1) => if vs.length < 1000 then some (.ref H1.length, H1 ++ [.list vs]) else none
  | none => none
noncomputable def tupX (f : LF) : XF := fun loc H => match f loc H with
  | some (vs, H1) => if vs.length < 1000 then some (.ref H1.length, H1 ++ [.tup vs]) else none
  | none => none
theorem sim_lst (K : COk C) {es pos f} (h1 : SimL C es f) : SimE C (.List es pos) (lstX f) := by
  intro B α loc H s v H' Q E R h hQ
  unfold lstX at h
  split at h
  · rename_i vs H1 e1
    split at h
    · rename_i hl
      cases h
      refine C_List (h1 R e1 fun α1 ws s1 p1 R1 ra => ?_)
      obtain ⟨q1, q2, q3⟩ := R1.made K (tk := s1.toks) (OR.list (n := 0) ra)
      exact wpC_of (wpAny_newList (hQ _ _ _ (p1.trans q1) q2 q3) (by rw [ra.length, sizeLine_eq]; omega))
    · cases h
  · cases h
theorem sim_tup (K : COk C) {es k pos f} (h1 : SimL C es f) : SimE C (.Tuple es k pos) (tupX f) := by
  intro B α loc H s v H' Q E R h hQ
  unfold tupX at h
  split at h
  · rename_i vs H1 e1
    split at h
    · rename_i hl
      cases h
      refine C_Tuple (h1 R e1 fun α1 ws s1 p1 R1 ra => ?_)
      obtain ⟨q1, q2, q3⟩ := R1.made K (tk := s1.toks) (OR.tup (n := 0) ra)
      exact wpC_of (wpAny_newTuple (hQ _ _ _ (p1.trans q1) q2 q3) (by rw [ra.length, sizeLine_eq]; omega))
    · cases h
  · cases h

/-! ### items -/
noncomputable def idxV (a i : V) (H : Hp) : Option V :=
  match a, i with
  | .ref k, .int j => if -1000000 < j ∧ j < 1000000 then
      match H[k]? with
      | some (.list xs) => (seqIndex? j xs.length).bind (xs[·]?)
      | some (.tup xs) => (seqIndex? j xs.length).bind (xs[·]?)
      | some (.ba xs) => (seqIndex? j xs.length).bind fun m => (xs[m]?).map fun (n : Nat) => V.int (n : Int)
      | _ => none
    else none
  | _, _ => none

theorem seqIndex_cases {j : Int} {n m : Nat} (h : seqIndex? j n = some m) : (0 ≤ j ∧ j < n ∧ m = j.toNat) ∨ (j < 0 ∧ -(n : Int) ≤ j ∧ m = (j + n).toNat) := by
  unfold seqIndex? at h
  by_cases hj : j < 0
  · simp only [hj, if_true] at h
    split at h
    · rename_i hb; simp at hb; cases h; exact .inr ⟨hj, by omega, rfl⟩
    · cases h
  · simp only [hj, if_false] at h
    split at h
    · rename_i hb; simp at hb; cases h; exact .inl ⟨by omega, by omega, rfl⟩
    · cases h

theorem idxV_ok {a i v : V} {va vi : Value} {value slice : Expr} {Q : Value → Shared → Prop} {E} (R : Rel C B α loc H s) (h : idxV a i H = some v) (ha : VR α a va) (hi : VR α i vi)
    (hs : ∀ o j u, subscripted slice false (.ref o) (.int j u) = operate [.ref o, .int j u] (getItem (.ref o) (.int j u)))
    (hQ : ∀ v' s', Rel C B α loc H s' → VR α v v' → Q v' s') : wpAny (model C.prog C.w) C.A (subscriptTail value slice va vi) Q E s := by
  unfold idxV at h
  split at h
  · rename_i k j
    split at h
    · rename_i hj
      obtain ⟨u, rfl⟩ := hi.int_inv
      split at h
      · rename_i xs hk
        obtain ⟨l, vs, n, rfl, hl, ho, rv⟩ := R.listAt hk ha
        obtain ⟨m, hm, hx⟩ := Option.bind_eq_some_iff.mp h
        obtain ⟨v', hv', hr⟩ := rv.get hx
        have hL : s.heap.IsList l vs.toArray := ⟨_, ho, rfl, n, rfl⟩
        refine tail_any hL.typeIs slot_list_getitem.lookup ?_ (hs _ _ _)
        rcases seqIndex_cases hm with ⟨h0, h1, rfl⟩ | ⟨h0, h1, rfl⟩
        · exact wpAny_getItem_list hL h0 (by omega) (by simpa using hv') (hQ _ _ R hr)
        · have hlen := rv.length
          exact wpAny_getItem_list_neg hL h0 (by rw [List.size_toArray, hlen]; exact h1) (by omega) (by simpa [hlen] using hv') (hQ _ _ R hr)
      · rename_i xs hk
        obtain ⟨l, vs, n, rfl, hl, ho, rv⟩ := R.tupAt hk ha
        obtain ⟨m, hm, hx⟩ := Option.bind_eq_some_iff.mp h
        obtain ⟨v', hv', hr⟩ := rv.get hx
        have hlen := rv.length
        exact item_tupleT (l := vs) ⟨_, ho, rfl, n, rfl⟩ (by omega) (by omega) (by rw [hlen]; exact hm) hv' (hQ _ _ R hr) (hs _ _ _)
      · rename_i xs hk
        obtain ⟨l, b, rfl, hl, ho, rb⟩ := R.baAt hk ha
        obtain ⟨m, hm, hx⟩ := Option.bind_eq_some_iff.mp h
        obtain ⟨n, hn, rfl⟩ := Option.map_eq_some_iff.mp hx
        have hlen : b.size = xs.length := by rw [← rb, List.length_map, Array.length_toList]
        rw [← rb, List.getElem?_map, Option.map_eq_some_iff] at hn
        obtain ⟨y, hy, rfl⟩ := hn
        refine tail_any (T := "bytearray") ⟨_, ho, rfl⟩ slot_ba_getitem.lookup ?_ (hs _ _ _)
        exact getItem_ba ho (by omega) (by omega) (by rw [hlen]; exact hm) (by simpa using hy) (hQ _ _ (R.tok _) (.int _ _))
      · cases h
    · cases h
  · cases h
noncomputable def idxX (f g : XF) : XF := fun loc H => match f loc H with
  | none => none
  | some (a, H1) => match g loc H1 with
    | none => none
    | some (i, H2) => match idxV a i H2 with
      | some v => some (v, H2)
      | none => none
theorem sim_idx {e i pos f g} (h1 : SimE C e f) (h2 : SimE C i g) (hs : ∀ o j u, subscripted i false (.ref o) (.int j u) = operate [.ref o, .int j u] (getItem (.ref o) (.int j u))) :
    SimE C (.Subscript e i pos) (idxX f g) := by
  intro B α loc H s v H' Q E R h hQ
  unfold idxX at h
  split at h
  · cases h
  rename_i a H1 e1
  split at h
  · cases h
  rename_i b H2 e2
  split at h
  · rename_i w e3
    cases h
    exact C_Subscript (h1 R e1 fun α1 va s1 p1 R1 ra => h2 R1 e2 fun α2 vb s2 p2 R2 rb =>
      wpC_of (idxV_ok R2 e3 (ra.mono p2) rb hs fun v' s' R' r' => hQ _ _ _ (p1.trans p2) R' r'))
  · cases h
end Mine

namespace Mine
open PySem PySem.W PyProof.Rows PySem.Calls

variable {C : Cx} {B : Base} {α : List Addr} {loc : Loc} {H : Hp} {s : Shared}

/-! ### base changed -/
open Classical in
/-- all that stands outside the tracked objects and the frame's own -/
noncomputable def restOf (C : Cx) (α : List Addr) (s : Shared) : Base := fun b => if b ∈ α ∨ Own C b then none else s.heap.get? b
theorem restOf_some {b o} : restOf C α s b = some o ↔ (s.heap.get? b = some o ∧ b ∉ α ∧ ¬ Own C b) := by
  unfold restOf
  split
  · rename_i h
    constructor
    · intro e; cases e
    · rintro ⟨_, h1, h2⟩; exact (h.elim h1 h2).elim
  · rename_i h
    exact ⟨fun e => ⟨e, fun q => h (.inl q), fun q => h (.inr q)⟩, fun e => e.1⟩
theorem Rel.rebase (R : Rel C B α loc H s) : Rel C (restOf C α s) α loc H s := { R with keep := fun _ _ e => restOf_some.mp e }
theorem Rel.back {B' : Base} {α' loc' H'} {s' : Shared} (hB : ∀ b o, B b = some o → B' b = some o) (R' : Rel C B' α' loc' H' s') : Rel C B α' loc' H' s' :=
  { R' with keep := fun b o e => R'.keep b o (hB b o e) }
theorem Rel.toRest (R : Rel C B α loc H s) : ∀ b o, B b = some o → restOf C α s b = some o := fun b o e => restOf_some.mpr (R.keep b o e)

/-! ### calls -/
abbrev Fn := List V → Hp → Option (V × Hp)
noncomputable def callX (g : LF) (F : Fn) : XF := fun loc H => match g loc H with
  | some (vs, H1) => F vs H1
  | none => none
noncomputable def CallOk (C : Cx) (f : Value) (F : Fn) : Prop := ∀ {B α loc H s vs v H' ws} {Q : Value → Shared → Prop} {E}, Rel C B α loc H s → F vs H = some (v, H') → VRs α vs ws →
  (∀ α' v' s', α <+: α' → Rel C B α' loc H' s' → VR α' v v' → Q v' s') → wpC (model C.prog C.w) C.A (call f ws) Q E s

theorem sim_callB {x npos e es pos g id F} (hf : GlobIs C x (· = .builtin id)) (hl : SimL C (e :: es) g) (hF : CallOk C (.builtin id) F)
    (he : ∀ env, starEach (e :: es) env = (false, eval e env) :: starEach es env) (hp : ∀ env, (backTo pos (starEach es env)).any (·.1) = false)
    (hc : ∀ env, eval (.Call (.Name x npos) (e :: es) [] pos) env = (do callWith pos (← eval (.Name x npos) env) [] (backTo pos (starEach (e :: es) env)) (backToKw pos (keywordEach [] env)))) :
    SimE C (.Call (.Name x npos) (e :: es) [] pos) (callX g F) := by
  intro B α loc H s v H' Q E R h hQ
  unfold callX at h
  split at h
  · rename_i vs H1 e1
    refine C_Call (wpC_of (hf _ _ _ _ R.keepW fun v hv => ?_)) (hc _)
    subst hv
    have hl' := hl (pos := pos) R e1 (Q := fun ws s₁ => wpC (model C.prog C.w) C.A (call (.builtin id) ([] ++ ws) []) Q E s₁) (E := E) fun α1 ws s1 p1 R1 ra => hF R1 h ra fun α2 v2 s2 p2 R2 r2 => hQ _ _ _ (p1.trans p2) R2 r2
    rw [he] at hl' ⊢
    exact C_callWith_builtin (by show (false || (backTo pos (starEach es C.env)).any (·.1)) = false; rw [hp]; rfl) (C_evalArgs hl')
  · cases h
theorem sim_callT {x npos e es pos g T F} (hf : GlobIs C x (· = .type T)) (hl : SimL C (e :: es) g) (hF : CallOk C (.type T) F)
    (he : ∀ env, starEach (e :: es) env = (false, eval e env) :: starEach es env) (hp : ∀ env, (backTo pos (starEach es env)).any (·.1) = false)
    (hc : ∀ env, eval (.Call (.Name x npos) (e :: es) [] pos) env = (do callWith pos (← eval (.Name x npos) env) [] (backTo pos (starEach (e :: es) env)) (backToKw pos (keywordEach [] env)))) :
    SimE C (.Call (.Name x npos) (e :: es) [] pos) (callX g F) := by
  intro B α loc H s v H' Q E R h hQ
  unfold callX at h
  split at h
  · rename_i vs H1 e1
    refine C_Call (wpC_of (hf _ _ _ _ R.keepW fun v hv => ?_)) (hc _)
    subst hv
    have hl' := hl (pos := pos) R e1 (Q := fun ws s₁ => wpC (model C.prog C.w) C.A (call (.type T) ([] ++ ws) []) Q E s₁) (E := E) fun α1 ws s1 p1 R1 ra => hF R1 h ra fun α2 v2 s2 p2 R2 r2 => hQ _ _ _ (p1.trans p2) R2 r2
    rw [he] at hl' ⊢
    exact C_callWith_type (by show (false || (backTo pos (starEach es C.env)).any (·.1)) = false; rw [hp]; rfl) (C_evalArgs hl')
  · cases h
/-- a def of the text, at a known address -/
theorem sim_callF {x npos e es pos g} {f : Addr} {o fd F} (hf : GlobIs C x (· = .ref f)) (hfo : C.W.get? f = some o) (hfd : o.data = .func fd) (hl : SimL C (e :: es) g) (hF : CallOk C (.ref f) F)
    (he : ∀ env, starEach (e :: es) env = (false, eval e env) :: starEach es env)
    (hc : ∀ env, eval (.Call (.Name x npos) (e :: es) [] pos) env = (do callWith pos (← eval (.Name x npos) env) [] (backTo pos (starEach (e :: es) env)) (backToKw pos (keywordEach [] env)))) :
    SimE C (.Call (.Name x npos) (e :: es) [] pos) (callX g F) := by
  intro B α loc H s v H' Q E R h hQ
  unfold callX at h
  split at h
  · rename_i vs H1 e1
    refine C_Call (wpC_of (hf _ _ _ _ R.keepW fun v hv => ?_)) (hc _)
    subst hv
    have hl' := hl (pos := pos) R e1 (Q := fun ws s₁ => (s₁.heap.get? f = some o ∧ o.data = .func fd) ∧ wpC (model C.prog C.w) C.A (call (.ref f) ([] ++ ws) []) Q E s₁) (E := E) fun α1 ws s1 p1 R1 ra =>
      ⟨⟨R1.keepW _ _ hfo, hfd⟩, hF R1 h ra fun α2 v2 s2 p2 R2 r2 => hQ _ _ _ (p1.trans p2) R2 r2⟩
    rw [he] at hl' ⊢
    exact C_callWith_function (C_evalArgs hl')
  · cases h
theorem sim_callF0 {x npos pos} {f : Addr} {o fd F} (hf : GlobIs C x (· = .ref f)) (hfo : C.W.get? f = some o) (hfd : o.data = .func fd) (hF : CallOk C (.ref f) F)
    (hc : ∀ env, eval (.Call (.Name x npos) [] [] pos) env = (do callWith pos (← eval (.Name x npos) env) [] (backTo pos (starEach [] env)) (backToKw pos (keywordEach [] env)))) :
    SimE C (.Call (.Name x npos) [] [] pos) (callX nilL F) := by
  intro B α loc H s v H' Q E R h hQ
  refine C_Call (wpC_of (hf _ _ _ _ R.keepW fun v hv => ?_)) (hc _)
  subst hv
  exact C_callWith_function (C_evalArgs_nil ⟨⟨R.keepW _ _ hfo, hfd⟩, hF R h .nil hQ⟩)

noncomputable def lenF : Fn := fun vs H => match vs with
  | [.ref k] => match H[k]? with
    | some (.list xs) => if xs.length < 1000000 then some (.int xs.length, H) else none
    | some (.tup xs) => if xs.length < 1000000 then some (.int xs.length, H) else none
    | _ => none
  | _ => none
theorem VRs.one {v ws} (h : VRs α [v] ws) : ∃ v', ws = [v'] ∧ VR α v v' := by cases h with | cons x r => cases r; exact ⟨_, rfl, x⟩
theorem VRs.two {v u ws} (h : VRs α [v, u] ws) : ∃ v' u', ws = [v', u'] ∧ VR α v v' ∧ VR α u u' := by
  cases h with | cons x r => obtain ⟨u', rfl, hu⟩ := r.one; exact ⟨_, _, rfl, x, hu⟩
theorem VRs.three {v u t ws} (h : VRs α [v, u, t] ws) : ∃ v' u' t', ws = [v', u', t'] ∧ VR α v v' ∧ VR α u u' ∧ VR α t t' := by
  cases h with | cons x r => obtain ⟨u', t', rfl, hu, ht⟩ := r.two; exact ⟨_, _, _, rfl, x, hu, ht⟩
theorem call_len : CallOk C (.builtin "len") lenF := by
  intro B α loc H s vs v H' ws Q E R h hv hQ
  unfold lenF at h
  split at h
  · rename_i k
    obtain ⟨va, rfl, ha⟩ := hv.one
    split at h
    · rename_i xs hk
      split at h
      · cases h
        obtain ⟨l, us, n, rfl, hl, ho, rv⟩ := R.listAt hk ha
        refine wpC_of (call_len_list ⟨_, ho, rfl, n, rfl⟩ (by rw [List.size_toArray, rv.length]; omega) ?_)
        rw [List.size_toArray, rv.length]
        exact hQ _ _ _ (pre_refl _) (R.tok _) (.int _ _)
      · cases h
    · rename_i xs hk
      split at h
      · cases h
        obtain ⟨l, us, n, rfl, hl, ho, rv⟩ := R.tupAt hk ha
        refine wpC_of (len_tuple ⟨_, ho, rfl, n, rfl⟩ (by rw [List.size_toArray, rv.length]; omega) ?_)
        rw [List.size_toArray, rv.length]
        exact hQ _ _ _ (pre_refl _) (R.tok _) (.int _ _)
      · cases h
    · cases h
  · cases h
noncomputable def absF : Fn := fun vs H => match vs with
  | [.int a] => some (.int (if a < 0 then -a else a), H)
  | _ => none
theorem call_abs : CallOk C (.builtin "abs") absF := by
  intro B α loc H s vs v H' ws Q E R h hv hQ
  unfold absF at h
  split at h
  · cases h
    obtain ⟨va, rfl, ha⟩ := hv.one
    obtain ⟨t, rfl⟩ := ha.int_inv
    exact wpC_of (PyProof.Rows.call_abs_int fun u tk => hQ _ _ _ (pre_refl _) (R.tok _) (.int _ _))
  · cases h
noncomputable def maxF : Fn := fun vs H => match vs with
  | [.int a, .int b] => some (.int (if b > a then b else a), H)
  | _ => none
noncomputable def minF : Fn := fun vs H => match vs with
  | [.int a, .int b] => some (.int (if b < a then b else a), H)
  | _ => none
theorem call_max (K : COk C) : CallOk C (.builtin "max") maxF := by
  intro B α loc H s vs v H' ws Q E R h hv hQ
  unfold maxF at h
  split at h
  · cases h
    obtain ⟨va, vb, rfl, ha, hb⟩ := hv.two
    obtain ⟨t, rfl⟩ := ha.int_inv
    obtain ⟨u, rfl⟩ := hb.int_inv
    refine wpC_of (max_two_ints K.hh fun h' tk hk => ?_)
    have R' := R.ext (s' := { s with heap := h', toks := tk }) hk rfl rfl
    split
    · rename_i hc; refine hQ _ _ _ (pre_refl _) R' ?_; rw [if_pos hc]; exact .int _ _
    · rename_i hc; refine hQ _ _ _ (pre_refl _) R' ?_; rw [if_neg hc]; exact .int _ _
  · cases h
theorem call_min (K : COk C) : CallOk C (.builtin "min") minF := by
  intro B α loc H s vs v H' ws Q E R h hv hQ
  unfold minF at h
  split at h
  · cases h
    obtain ⟨va, vb, rfl, ha, hb⟩ := hv.two
    obtain ⟨t, rfl⟩ := ha.int_inv
    obtain ⟨u, rfl⟩ := hb.int_inv
    refine wpC_of (min_two_ints K.hh fun h' tk hk => ?_)
    have R' := R.ext (s' := { s with heap := h', toks := tk }) hk rfl rfl
    split
    · rename_i hc; refine hQ _ _ _ (pre_refl _) R' ?_; rw [if_pos hc]; exact .int _ _
    · rename_i hc; refine hQ _ _ _ (pre_refl _) R' ?_; rw [if_neg hc]; exact .int _ _
  · cases h
noncomputable def rangeF : Fn := fun vs H => match vs with
  | [.int n] => some (.ref H.length, H ++ [.rng 0 n 1])
  | [.int a, .int b] => some (.ref H.length, H ++ [.rng a b 1])
  | [.int a, .int b, .int c] => if c ≠ 0 ∧ c.natAbs < 1073741824 then some (.ref H.length, H ++ [.rng a b c]) else none
  | _ => none
theorem call_range (K : COk C) : CallOk C (.type "range") rangeF := by
  intro B α loc H s vs v H' ws Q E R h hv hQ
  unfold rangeF at h
  split at h
  · cases h
    obtain ⟨va, rfl, ha⟩ := hv.one
    obtain ⟨t, rfl⟩ := ha.int_inv
    refine wpC_of (call_range_1 ?_)
    obtain ⟨q1, q2, q3⟩ := R.made K (tk := s.toks + 1 + 1) (OR.rng (a := 0) (b := _) (c := 1) (t := s.toks) (u := t) (v := s.toks + 1))
    exact hQ _ _ _ q1 q2 q3
  · cases h
    obtain ⟨va, vb, rfl, ha, hb⟩ := hv.two
    obtain ⟨t, rfl⟩ := ha.int_inv
    obtain ⟨u, rfl⟩ := hb.int_inv
    refine wpC_of (call_range_2 ?_)
    obtain ⟨q1, q2, q3⟩ := R.made K (tk := s.toks + 1) (OR.rng (a := _) (b := _) (c := 1) (t := t) (u := u) (v := s.toks))
    exact hQ _ _ _ q1 q2 q3
  · split at h
    · rename_i hc
      cases h
      obtain ⟨va, vb, vc, rfl, ha, hb, hc'⟩ := hv.three
      obtain ⟨t, rfl⟩ := ha.int_inv
      obtain ⟨u, rfl⟩ := hb.int_inv
      obtain ⟨w, rfl⟩ := hc'.int_inv
      refine wpC_of (call_range_3 hc.1 ?_ (.inl (PyProof.noPylong_small hc.2)))
      obtain ⟨q1, q2, q3⟩ := R.made K (tk := s.toks) (OR.rng (a := _) (b := _) (c := _) (t := t) (u := u) (v := w))
      exact hQ _ _ _ q1 q2 q3
    · cases h
  · cases h

/-! ### statements -/
noncomputable def nilS : SF := fun loc H => some (.next, loc, H)
noncomputable def consS (f g : SF) : SF := fun loc H => match f loc H with
  | some (.next, loc', H') => g loc' H'
  | r => r
theorem simS_nil : SimSs C [] nilS := by
  intro B α loc H s r loc' H' Q E R h hQ
  cases h
  exact C_execs_nil (hQ _ _ _ (pre_refl _) R .next)
theorem simS_cons {st sts f g} (h1 : SimS C st f) (h2 : SimSs C sts g) : SimSs C (st :: sts) (consS f g) := by
  intro B α loc H s r loc' H' Q E R h hQ
  unfold consS at h
  split at h
  · rename_i loc1 H1 e1
    exact C_execs_cons (h1 R e1 fun α1 r1 s1 p1 R1 f1 => by
      cases f1
      exact h2 R1 h fun α2 r2 s2 p2 R2 f2 => hQ _ _ _ (p1.trans p2) R2 f2)
  · rename_i hne
    cases r with
    | next => exact absurd h (hne _ _)
    | ret v =>
      exact C_execs_cons (h1 R h fun α1 r1 s1 p1 R1 f1 => by
        cases f1 with | ret x => exact hQ _ _ _ p1 R1 (.ret x))
noncomputable def retF (f : XF) : SF := fun loc H => match f loc H with
  | some (v, H1) => some (.ret v, loc, H1)
  | none => none
theorem simS_ret {e pos f} (h1 : SimE C e f) : SimS C (.Return (some e) pos) (retF f) := by
  intro B α loc H s r loc' H' Q E R h hQ
  unfold retF at h
  split at h
  · rename_i v H1 e1
    cases h
    exact C_Return (h1 R e1 fun α1 va s1 p1 R1 ra => hQ _ _ _ p1 R1 (.ret ra))
  · cases h
noncomputable def ifF (t : TF) (f g : SF) : SF := fun loc H => match t loc H with
  | some (true, H1) => f loc H1
  | some (false, H1) => g loc H1
  | none => none
theorem simS_if {t b o pos ft f g} (h0 : SimT C t ft) (h1 : SimSs C b f) (h2 : SimSs C o g) : SimS C (.If t b o pos) (ifF ft f g) := by
  intro B α loc H s r loc' H' Q E R h hQ
  unfold ifF at h
  split at h
  · rename_i H1 e1
    exact C_If (h0 R e1 fun α1 s1 p1 R1 => h1 R1 h fun α2 r2 s2 p2 R2 f2 => hQ _ _ _ (p1.trans p2) R2 f2)
  · rename_i H1 e1
    exact C_If (h0 R e1 fun α1 s1 p1 R1 => h2 R1 h fun α2 r2 s2 p2 R2 f2 => hQ _ _ _ (p1.trans p2) R2 f2)
  · cases h

/-- a name is bound -/
noncomputable def SimN (C : Cx) (x : Str) (k : Nat) : Prop := ∀ {B α loc H s v v'} {Q : Unit → Shared → Prop} {E}, Rel C B α loc H s → VR α v v' →
  (∀ s', Rel C B α (loc.set k (some v)) H s' → Q () s') → wpAny (model C.prog C.w) C.A (storeName C.env x v') Q E s
theorem simN_L (K : COk C) {x k} (hx : At C.names x k) (hl : C.env.kindOf x = some .local) (hc : C.env.cells.lookup x = none) : SimN C x k := by
  intro B α loc H s v v' Q E R hv hQ
  obtain ⟨m, hm⟩ := R.ns
  refine wpAny_storeName_local hl hm.1 (fun h' hn hs => hQ _ (R.stL K hx.get hl m hm hs hn hc rfl rfl hv)) ?_
  rw [K.hk]; rfl
theorem simN_C (K : COk C) {x k c} (hx : At C.names x k) (hl : C.env.kindOf x = some .cell) (hc : C.env.cells.lookup x = some c) : SimN C x k := by
  intro B α loc H s v v' Q E R hv hQ
  obtain ⟨ov, h1, h2⟩ := R.cl x c hc
  exact wpAny_storeName_cell K.hk hl hc h1 fun h' hn hs => hQ _ (R.stC K hx.get (by rw [hl]; nofun) hc hs hn rfl rfl hv)
noncomputable def assignF (k : Nat) (f : XF) : SF := fun loc H => match f loc H with
  | some (v, H1) => some (.next, loc.set k (some v), H1)
  | none => none
theorem simS_assign {x pos' e pos f k} (hn : SimN C x k) (h1 : SimE C e f) (hs : swapsWith e (some (.Name x pos')) pos.line C.env = pure false) : SimS C (.Assign [.Name x pos'] e pos) (assignF k f) := by
  intro B α loc H s r loc' H' Q E R h hQ
  unfold assignF at h
  split at h
  · rename_i v H1 e1
    cases h
    exact C_Assign_Name (h1 R e1 fun α1 va s1 p1 R1 ra => wpC_of (hn R1 ra fun s' R' => hQ _ _ _ p1 R' .next)) hs
  · cases h
noncomputable def augV (op : Operator) (a b : V) : Option V :=
  match op, a, b with
  | .Add, .int x, .int y => some (.int (x + y))
  | .Sub, .int x, .int y => some (.int (x - y))
  | .BitXor, .int x, .int y => some (.int (Builtin.bitXor x y))
  | .BitXor, .bool x, .bool y => some (.bool (x != y))
  | _, _, _ => none
theorem augV_ok {op : Operator} {a b v : V} {va vb : Value} {Q : Value → Shared → Prop} {E} (R : Rel C B α loc H s) (h : augV op a b = some v) (ha : VR α a va) (hb : VR α b vb)
    (hQ : ∀ v' s', Rel C B α loc H s' → VR α v v' → Q v' s') : wpAny (model C.prog C.w) C.A (inplaceOp op va vb) Q E s := by
  unfold augV at h
  split at h
  · cases h; obtain ⟨t, rfl⟩ := ha.int_inv; obtain ⟨u, rfl⟩ := hb.int_inv
    exact PyProof.Rows.iadd_int (hQ _ _ (R.tok _) (.int _ _))
  · cases h; obtain ⟨t, rfl⟩ := ha.int_inv; obtain ⟨u, rfl⟩ := hb.int_inv
    exact PyProof.Rows.isub_int (hQ _ _ (R.tok _) (.int _ _))
  · cases h; obtain ⟨t, rfl⟩ := ha.int_inv; obtain ⟨u, rfl⟩ := hb.int_inv
    exact PyProof.Rows.ixor_int (hQ _ _ (R.tok _) (.int _ _))
  · cases h; obtain rfl := ha.bool_inv; obtain rfl := hb.bool_inv
    exact PyProof.Rows.ixor_bool (hQ _ _ R (.bool _))
  · cases h
noncomputable def augF (k : Nat) (op : Operator) (f : XF) : SF := fun loc H => match loc[k]? with
  | some (some a) => match f loc H with
    | some (b, H1) => match augV op a b with
      | some v => some (.next, loc.set k (some v), H1)
      | none => none
    | none => none
  | _ => none
theorem simS_aug (K : COk C) {x pos' op e pos f k} (hx : At C.names x k) (hl : C.env.kindOf x = some .local) (hn : SimN C x k) (h1 : SimE C e f) : SimS C (.AugAssign (.Name x pos') op e pos) (augF k op f) := by
  intro B α loc H s r loc' H' Q E R h hQ
  unfold augF at h
  split at h
  · rename_i a ea
    split at h
    · rename_i b H1 e1
      split at h
      · rename_i v e2
        cases h
        obtain ⟨m, hm, hm2⟩ := R.ns
        obtain ⟨a', g1, g2⟩ := hm2 k x a hx.get ea hl
        exact C_AugAssign_Name (wpC_of (wpAny_loadName_local K.hk hl hm g1 (h1 R e1 fun α1 vb s1 p1 R1 rb =>
          wpC_of (augV_ok R1 e2 (g2.mono p1) rb fun v' s' R' rv => wpC_of (hn R' rv fun s2 R2 => hQ _ _ _ p1 R2 .next)))))
      · cases h
    · cases h
  · cases h

/-! ### stores into lists and bytearrays -/
abbrev listObj (items : Array Value) (n : Nat) : Obj := { cls := .type "list", dict := none, data := .seq items n, slots := #[] }
section
variable {prog : Program} {w : World} {A : Around} {E : Value → Shared → Prop}
theorem setItem_listObj {l : Addr} {items : Array Value} {n : Nat} {k : Int} {t : Tok} {v : Value} {Q : Unit → Shared → Prop} (ho : s.heap.get? l = some (listObj items n))
    (h0 : 0 ≤ k) (hfit : k < 2 ^ 63) (hn : k < items.size)
    (hQ : ∀ h', h'.get? l = some (listObj (items.setIfInBounds k.toNat v) n) → Heap.SameBut l s.heap h' → Q () { s with heap := h' }) :
    wpAny (model prog w) A (setItem (.ref l) (.int k t) v) Q E s := by
  have hl : s.heap.IsList l items := ⟨_, ho, rfl, n, rfl⟩
  have hd : (listObj items n).data = .seq items n := rfl
  unfold setItem
  refine wpAny_holding ?_
  refine wpAny_bind (wpAny_sequenceKey hl.typeIs (by decide) ?_)
  refine wpAny_bind (wpAny_callSpecial?_slot (name := Str.ofString "__setitem__") hl.typeIs slot_list_setitem
    (wpAny_call_entry slot_list_setitem hl.typeIs entry_list_setitem ?_ (args_list_setitem _ _ _)))
  show wpAny _ _ (Builtin.List.listSubscript? (.int k t) >>= _) _ _ s
  refine wpAny_bind (wpAny_listSubscript_int (fitsIndex_of h0 hfit) ?_)
  clear hfit
  obtain ⟨j, rfl⟩ := Int.eq_ofNat_of_zero_le h0
  have hj : j < items.size := by omega
  have hx' : items[j]? = some items[j] := Array.getElem?_eq_getElem hj
  show wpAny _ _ ((seqItemAt l j >>= fun r => pure (r.map (j, ·))) >>= _) _ _ s
  refine wpAny_bind (wpAny_bind (wpAny_seqItemAt ho hd (wpAny_pure ?_)))
  rw [hx']
  show wpAny _ _ (setSeqItemAt l j v >>= _) _ _ s
  have hfin : (s.heap.update l (Obj.mapSeq (·.setIfInBounds j v))).get? l = some (listObj (items.setIfInBounds j v) n) := by
    refine (Heap.get?_update_self _ ho (Obj.isFreed_of_seq (Obj.data_mapSeq hd (·.setIfInBounds j v)).choose_spec)).trans ?_
    simp [Obj.mapSeq, listObj]
  refine wpAny_bind (wpAny_setSeqItemAt ho hd ?_)
  first
    | exact wpAny_bind (wpAny_pure (wpAny_pure ⟨.none, rfl, wpAny_pure (hQ _ hfin (Heap.SameBut.update ..))⟩))
    | exact wpAny_pure ⟨.none, rfl, wpAny_pure (hQ _ hfin (Heap.SameBut.update ..))⟩
end
noncomputable def setV (nf : Nat) (a i v : V) (H : Hp) : Option Hp :=
  match a, i with
  | .ref k, .int j => if nf ≤ k ∧ -1000000 < j ∧ j < 1000000 then
      match H[k]? with
      | some (.list xs) => if 0 ≤ j ∧ j < xs.length then some (H.set k (.list (xs.set j.toNat v))) else none
      | some (.ba xs) => match v, seqIndex? j xs.length with
        | .int n, some m => if 0 ≤ n ∧ n < 256 ∧ xs.length < 1000000 then some (H.set k (.ba (xs.set m n.toNat))) else none
        | _, _ => none
      | _ => none
    else none
  | _, _ => none
theorem setV_ok {a i v : V} {va vi vv : Value} {H' : Hp} {Q : Unit → Shared → Prop} {E} (R : Rel C B α loc H s) (h : setV C.nf a i v H = some H') (ha : VR α a va) (hi : VR α i vi) (hv : VR α v vv)
    (hQ : ∀ s', Rel C B α loc H' s' → Q () s') : wpAny (model C.prog C.w) C.A (setItem va vi vv) Q E s := by
  unfold setV at h
  split at h
  · rename_i k j
    split at h
    · rename_i hj
      obtain ⟨u, rfl⟩ := hi.int_inv
      split at h
      · rename_i xs hk
        split at h
        · rename_i hb
          cases h
          obtain ⟨l, vs, n, rfl, hl, ho, rv⟩ := R.listAt hk ha
          have hL : s.heap.IsList l vs.toArray := ⟨_, ho, rfl, n, rfl⟩
          -- the exact object behind the store
          have hm : j.toNat < vs.length := by rw [rv.length]; omega
          refine setItem_listObj ho hb.1 (by omega) (by rw [List.size_toArray, rv.length]; omega) fun h' hn hs => ?_
          refine hQ _ (R.upd hl hj.1 (fun b o hne e => (hs.2 b hne).trans e) rfl rfl hn ?_)
          have := OR.list (n := n) (rv.set (i := j.toNat) hv)
          simpa using this
        · cases h
      · rename_i xs hk
        split at h
        · rename_i n m e
          split at h
          · rename_i hb
            cases h
            obtain ⟨t, rfl⟩ := hv.int_inv
            obtain ⟨l, b, rfl, hl, ho, rb⟩ := R.baAt hk ha
            have hlen : b.size = xs.length := by rw [← rb, List.length_map, Array.length_toList]
            refine setItem_ba ho (by omega) (by omega) (by rw [hlen]; exact e) hb.1 hb.2.1 (by rw [hlen, sizeLine_eq]; omega) fun h' hn hs => ?_
            refine hQ _ (R.upd hl hj.1 (fun b o hne e => (hs.2 b hne).trans e) rfl rfl hn (.ba ?_))
            rw [Array.toList_setIfInBounds, List.map_set, rb]
            congr 1
            show (UInt8.ofNat n.toNat).toNat = n.toNat
            rw [UInt8.toNat_ofNat']
            omega
          · cases h
        · cases h
      · cases h
    · cases h
  · cases h
end Mine

namespace Mine
open PySem PySem.W PyProof.Rows PySem.Calls
section
variable {prog : Program} {w : World} {A : Around} {E : Value → Shared → Prop} {s : Shared} {R : Result → Shared → Prop}
theorem codeC_builtin {id : String} {args : Args} {b : Builtin} (hb : entryFor table id = some b)
    (h : wpC (model prog w) (A.under (.builtin id args)) (b args) (fun fin s' => match fin with | .done f => R (.ok f) s' | .again c' => c'.quiet = true ∧ okCode c' = true ∧ codeC (model prog w) A c' R s')
      (fun e s' => R (.error e) s') s) : codeC (model prog w) A (.builtin id args) R s := by
  refine codeC_of_tree ?_
  have hden : (model prog w).den (.builtin id args) = b args := by
    show (match entryFor table id with | some b => b args | none => unsupported ((withoutEnding? id "#data").getD id)) = _
    rw [hb]
  rw [hden]; exact h

theorem codeC_call_builtin {id : String} {args : Args} {b : Builtin} (hq : plainId id = true) (hb : entryFor table id = some b) (ok : okCode (.builtin id args) = true)
    (h : wpAny (model prog w) A.in1 (checkBuiltinCall id args) (fun _ s₁ => wpC (model prog w) A.in1 (b args)
      (fun fin s' => match fin with | .done f => R (.ok f) s' | .again c' => c'.quiet = true ∧ okCode c' = true ∧ codeC (model prog w) A c' R s') (fun e s' => R (.error e) s') s₁)
      (fun e s' => R (.error e) s') s) : codeC (model prog w) A (.call (.builtin id) args) R s := by
  refine codeC_of_tree ?_
  show wpC _ A.in1 (do checkBuiltinCall id args; again (.builtin id args)) _ _ s
  refine wpC_bind (wpC_of (wpAny_mono h (fun _ s₁ h₁ => wpC_pure ⟨plainId_quiet hq args, ok, codeC_builtin hb ?_⟩) fun _ _ x => x))
  rw [Around.under_plainId hq args]
  exact h₁

theorem owner_ba_new : ("bytearray.__new__".splitOn ".__new__").headD "" = "bytearray" := by simp +decide [String.splitOn, String.splitOnAux]
theorem sub_ba_self : isSubtype (.type "bytearray") (.type "bytearray") = pure true := by rw [isSubtype_type]; kernel_rfl
theorem mro_ba : mroOf (.type "bytearray") = pure [.type "bytearray", .type "object"] := by rw [mroOf_type]; kernel_rfl
theorem lookup_ba_new : typeLookup (.type "bytearray") "__new__" = pure (some (.builtin "bytearray.__new__")) := by rw [typeLookup_type, builtinLookup_eq_fast]; kernel_rfl
theorem slot_ba_init : Slot "bytearray" "__init__" "bytearray.__init__" :=
  .of (owner := "bytearray") (n := "__init__") (by rw [typeLookup_type, builtinLookup_eq_fast]; kernel_rfl) (by decide +kernel) (by decide +kernel) (by decide +kernel)
    (by first | exact .inl (by decide +kernel) | exact .inr (by decide +kernel)) (by rw [isSubtype_type]; kernel_rfl)
theorem called_ba : TypeCalled "bytearray" "bytearray.__new__" "bytearray.__init__" :=
  ⟨by decide +kernel, by decide +kernel, ⟨_, _, mro_ba⟩, madeBy_type mro_ba lookup_ba_new (by decide +kernel), by decide +kernel, sub_ba_self, slot_ba_init⟩
theorem typeCall_ba (a : Value) : checkTypeCall "bytearray" ⟨[a], []⟩ = pure () := by kernel_rfl
theorem newCall_ba (a : Value) : checkBuiltinCall "bytearray.__new__" ⟨[.type "bytearray", a], []⟩ = pure () := by kernel_rfl
theorem canon_ba_new : Manifest.canonical (String.map (fun c => if (c.isAlphanum || c == '_' || c == '.') = true then c else '_') "bytearray.__new__") ++ "" = "list.__new__" := by decide +kernel
theorem entry_ba_new : entryFor table "bytearray.__new__" = some Builtin.«list.__new__» :=
  entryFor_alias (by rw [fastTable_eq_tree]; kernel_rfl) (by decide +kernel) canon_ba_new (by rw [fastTable_eq_tree]; kernel_rfl)
theorem plain_ba_new : plainId "bytearray.__new__" = true := by decide +kernel
theorem entry_ba_init : entryFor table "bytearray.__init__" = some Builtin.«bytearray.__init__» := entryFor_of_tree (by kernel_rfl)
theorem args_ba_init (a b : Value) : argsOk "bytearray.__init__" ⟨[a, b], []⟩ := by
  unfold argsOk; rw [signature?_of (id := "bytearray.__init__") (n := ['_', '_', 't', 'i', 'n', 'i', '_', '_']) (o := ['y', 'a', 'r', 'r', 'a', 'e', 't', 'y', 'b']) (by kernel_rfl) owner_ba]; kernel_rfl

theorem code_ba_new (a : Value) {Q₁ : Value → Shared → Prop}
    (h : Q₁ (.ref s.heap.objs.size) { s with heap := s.heap.push (baObj #[]) }) :
    codeAny (model prog w) A (.call (.builtin "bytearray.__new__") ⟨[.type "bytearray", a], []⟩) (wants Q₁ E) s := by
  refine codeAny_of_tree ?_
  show wpAny _ A.in1 (do checkBuiltinCall "bytearray.__new__" ⟨[.type "bytearray", a], []⟩; again (.builtin "bytearray.__new__" ⟨[.type "bytearray", a], []⟩)) _ _ s
  refine wpAny_bind (wpAny_of_eq (newCall_ba a) (wpAny_pure ⟨plainId_quiet plain_ba_new _, codeAny_builtin_stack entry_ba_new rfl fun p st => ?_⟩))
  rw [Around.under_plainId plain_ba_new _]
  have hsub := sub_ba_self
  have hown := owner_ba_new
  obtain ⟨hp, g, d, tk, os⟩ := s
  simp only [hown]
  wp_walk
  exact h

theorem rel_ba : typeLookup (.type "bytearray") "__release_buffer__" = pure (some (.builtin "bytearray.__release_buffer__")) := by rw [typeLookup_type, builtinLookup_eq_fast]; kernel_rfl
theorem ends_ba : ("bytearray.__release_buffer__" : String).endsWith ("." ++ "__release_buffer__") = true := by decide +kernel
theorem drop_ba : ("bytearray.__release_buffer__" : String).dropRight ("__release_buffer__".length + 1) = "bytearray" := by decide +kernel
theorem wpAny_ownRelease_ba {v : Value} {Q : Bool → Shared → Prop} (hT : s.TypeIs v "bytearray") (h : Q false s) : wpAny (model prog w) A (Builtin.Bytes.ownRelease v) Q E s := by
  unfold Builtin.Bytes.ownRelease Builtin.Bytes.slotIsOwn
  refine wpAny_bind (wpAny_bind (wpAny_specialOf hT rel_ba ?_))
  show wpAny _ _ (if (!("bytearray.__release_buffer__" : String).endsWith ("." ++ "__release_buffer__")) = true then _ else _) _ _ s
  rw [ends_ba, if_neg (by decide)]
  show wpAny _ _ (isInstance v (.type (("bytearray.__release_buffer__" : String).dropRight ("__release_buffer__".length + 1)))) _ _ s
  rw [drop_ba]
  exact wpAny_isInstance hT sub_ba_self (wpAny_pure h)
theorem seq_no_index {T : String} (h : T = "list" ∨ T = "tuple") : typeLookup (.type T) "__index__" = pure none := by
  rcases h with rfl | rfl <;> (rw [typeLookup_type, builtinLookup_eq_fast]; kernel_rfl)
theorem seq_no_buffer {T : String} (h : T = "list" ∨ T = "tuple") : typeLookup (.type T) "__buffer__" = pure none := by
  rcases h with rfl | rfl <;> (rw [typeLookup_type, builtinLookup_eq_fast]; kernel_rfl)
theorem init_ba {a src : Addr} {T : String} {vs : Array Value} {n : Nat} {Q : Value → Shared → Prop} (ho : s.heap.get? a = some (baObj #[])) (hs : s.heap.get? src = some { cls := .type T, dict := none, data := .seq vs n, slots := #[] })
    (hT : T = "list" ∨ T = "tuple") (b : Array UInt8) (hb : (vs.toList.takeWhile fun | .int i _ => 0 ≤ i && i < 256 | _ => false).length = vs.size)
    (hz : vs.size ≤ sizeLine)
    (hb' : ((vs.toList.takeWhile fun | .int i _ => 0 ≤ i && i < 256 | _ => false).filterMap (fun | .int i _ => some i.toNat.toUInt8 | _ => none)).toArray = b)
    (h : ∀ h', h'.get? a = some (baObj b) → Heap.SameBut a s.heap h' → Q .none { s with heap := h' }) :
    wpC (model prog w) A (Builtin.«bytearray.__init__» ⟨[.ref a, .ref src], []⟩) (fun fin s' => ∃ v, fin = .done (.ret v) ∧ Q v s') E s := by
  unfold Builtin.«bytearray.__init__»
  have hTa : s.TypeIs (.ref a) "bytearray" := ⟨_, ho, rfl⟩
  have e1 : Builtin.Bytes.bindOptional "bytearray.__init__" "bytearray" ["source", "encoding", "errors"] [.ref src] [] = pure [some (.ref src), none, none] := by
    first | rfl | (unfold Builtin.Bytes.bindOptional; simp; done)
  have e2 : ∀ x, Builtin.Bytes.checkCodecArg "bytearray.__init__" "bytearray" x none = pure () := fun _ => rfl
  dsimp only
  refine wpC_bind (wpC_of (wpAny_ownRelease_ba hTa ?_))
  rw [if_neg Bool.false_ne_true]
  rw [e1]
  refine wpC_bind (wpC_pure ?_)
  dsimp only
  rw [e2, e2]
  refine wpC_bind (wpC_pure (wpC_bind (wpC_pure ?_)))
  refine wpC_bind ?_
  unfold orM
  refine wpC_bind (wpC_exported ?_)
  show wpC _ _ (Builtin.Bytes.exportsOf (.ref a) >>= fun n => pure (decide (n > 0))) _ _ s
  refine wpC_bind ?_
  unfold Builtin.Bytes.exportsOf
  refine wpC_bind (wpC_of (wpAny_load ho (wpC_pure (wpC_pure ?_))))
  rw [if_neg (by decide)]
  refine wpC_bind (wpC_of (baWrite ho (by decide) fun h₁ hn₁ hs₁ => ?_))
  have hne : src ≠ a := by
    rintro rfl
    rw [ho] at hs; cases hs
  have hsrc : h₁.get? src = some { cls := .type T, dict := none, data := .seq vs n, slots := #[] } := (hs₁.2 src hne).trans hs
  unfold asStr?
  refine wpC_bind (wpC_bind (wpC_of (wpAny_load hsrc (wpC_pure ?_))))
  rw [if_neg (by decide)]
  have hTs : ∀ (tk : Nat), ({ s with heap := h₁, toks := tk } : Shared).TypeIs (.ref src) T := fun _ => ⟨_, hsrc, rfl⟩
  rw [if_neg (by decide), if_neg (by decide)]
  refine wpC_bind (wpC_pure (wpC_bind (wpC_of (wpAny_specialOf (hTs _) (seq_no_index hT) ?_))))
  rw [if_neg (by decide)]
  unfold Builtin.Bytes.buffer?
  refine wpC_bind (wpC_bind (wpC_of (wpAny_specialOf (hTs _) (seq_no_buffer hT) ?_)))
  refine wpC_bind (wpC_of (wpAny_specialOf (hTs _) (seq_no_buffer hT) ?_))
  refine wpC_pure ?_
  refine wpC_bind (wpC_of (wpAny_typeOf (hTs _) ?_))
  rw [if_pos (by rcases hT with rfl | rfl <;> decide)]
  refine wpC_bind (wpC_of (wpAny_seqItems hsrc rfl ?_))
  dsimp only
  have hsz : b.size ≤ sizeLine := by
    rw [← hb', List.size_toArray]
    refine Nat.le_trans (List.length_filterMap_le _ _) ?_
    rw [hb]; exact hz
  split
  · refine wpC_bind (wpC_rule (wpC_bind (wpC_of (baWrite (b := #[]) hn₁ ?_ fun h₂ hn₂ hs₂ => ?_))))
    · exact (congrArg (fun x : Array UInt8 => x.size ≤ sizeLine) hb').mpr hsz
    · exact wpC_pure ⟨_, rfl, h h₂ ((congrArg (fun x => h₂.get? a = some (baObj x)) hb').mp hn₂) (hs₁.trans hs₂)⟩
  · rename_i heq
    exact absurd ((congrArg (fun k : Nat => vs[k]?) hb).symm.trans heq) (by simp)
  · rename_i heq
    exact absurd ((congrArg (fun k : Nat => vs[k]?) hb).symm.trans heq) (by simp)

theorem call_ba {src : Addr} {T : String} {vs : Array Value} {n : Nat} {Q : Value → Shared → Prop} (hs : s.heap.get? src = some { cls := .type T, dict := none, data := .seq vs n, slots := #[] })
    (hT : T = "list" ∨ T = "tuple") (b : Array UInt8) (hb : (vs.toList.takeWhile fun | .int i _ => 0 ≤ i && i < 256 | _ => false).length = vs.size)
    (hz : vs.size ≤ sizeLine)
    (hb' : ((vs.toList.takeWhile fun | .int i _ => 0 ≤ i && i < 256 | _ => false).filterMap (fun | .int i _ => some i.toNat.toUInt8 | _ => none)).toArray = b)
    (h : ∀ h', h'.get? s.heap.objs.size = some (baObj b) → (∀ a o, s.heap.get? a = some o → h'.get? a = some o) → Q (.ref s.heap.objs.size) { s with heap := h' }) :
    wpC (model prog w) A (call (.type "bytearray") [.ref src]) Q E s := by
  have ft := called_ba
  obtain ⟨c, tl, hmro⟩ := ft.mro
  have hmade := ft.made
  have hsub := ft.sub
  have h1 := ft.notType
  have h2 := ft.canCreate
  refine wpC_call (codeC_of_tree ?_)
  show wpC _ _ (callAny (.type "bytearray") _) _ _ _
  refine wpC_pure ⟨Code.quiet_builtin _ (by decide +kernel), by show (!badIds.contains "type.__call__") = true; decide +kernel, codeC_builtin F.entry_type_call ?_⟩
  rw [Around.under_plain (weight_type_call_type "bytearray" [.ref src] []) (units_type_call_type "bytearray" [.ref src] [])]
  unfold Builtin.«type.__call__»
  simp only [h1, Bool.false_eq_true, if_false, h2, pure_bind]
  refine wpC_bind (wpC_of_eq (typeCall_ba _) (wpC_bind (wpC_of_eq hmro ?_)))
  rw [if_neg (by simp)]
  refine wpC_bind (wpC_of_eq hmade ?_)
  dsimp only
  refine wpC_bind (wpC_holding (wpC_call (codeC_mono (codeC_of (code_ba_new (E := E) (.ref src) (Q₁ := fun v s' => v = .ref s.heap.objs.size ∧ s' = { s with heap := s.heap.push (baObj #[]) }) ⟨rfl, rfl⟩)) fun r s' hr => ?_)))
  cases r with
  | error e => exact hr
  | ok fl =>
    cases fl with
    | ret obj =>
      obtain ⟨rfl, rfl⟩ := hr
      have ho : (s.heap.push (baObj #[])).get? s.heap.objs.size = some (baObj #[]) := Heap.get?_push_size _ rfl
      have hT1 : ({ s with heap := s.heap.push (baObj #[]) } : Shared).TypeIs (.ref s.heap.objs.size) "bytearray" := ⟨_, ho, rfl⟩
      dsimp only
      refine wpC_bind (wpC_of (wpAny_isInstance hT1 hsub ?_))
      rw [if_neg (by decide)]
      refine wpC_bind (wpC_holding ?_)
      simp only [callSpecial?]
      refine wpC_bind (wpC_of (wpAny_specialOf hT1 slot_ba_init.lookup ?_))
      simp only [slot_ba_init.bind]
      refine wpC_holding (wpC_bind (wpC_pure (wpC_bind (wpC_call (codeC_call_builtin slot_ba_init.plain entry_ba_init (by show (!badIds.contains "bytearray.__init__") = true; decide +kernel)
        (slot_ba_init.check _ _ _ _ _ _ _ _ hT1 (args_ba_init _ _) ?_))))))
      refine wpC_mono (init_ba (a := s.heap.objs.size) (s := { s with heap := s.heap.push (baObj #[]) }) ho (Heap.get?_push_of_some _ hs) hT b hb hz hb'
        (Q := fun v s' => v = .none ∧ ∃ h', h'.get? s.heap.objs.size = some (baObj b) ∧ (∀ a o, s.heap.get? a = some o → h'.get? a = some o) ∧ s' = { s with heap := h' }) (E := E)
        fun h' hn' hs' => ⟨rfl, h', hn', fun a o e => (hs'.2 a (Nat.ne_of_lt (Heap.lt_size e))).trans (Heap.get?_push_of_some _ e), rfl⟩) (fun fin s' hf => ?_) fun _ _ x => x
      obtain ⟨v, rfl, rfl, h', q1, q2, rfl⟩ := hf
      dsimp only
      refine wpC_pure ?_
      dsimp only
      rw [if_neg (by decide)]
      exact wpC_pure (h h' q1 q2)
    | _ => exact hr.elim
end
end Mine

namespace Mine
open PySem PySem.W PyProof.Rows PySem.Calls

variable {C : Cx} {B : Base} {α : List Addr} {loc : Loc} {H : Hp} {s : Shared}

/-! ### bytearray(list | tuple) -/
noncomputable def natsOf : List V → Option (List Nat)
  | [] => some []
  | .int n :: r => if 0 ≤ n ∧ n < 256 then (natsOf r).map (n.toNat :: ·) else none
  | _ => none
theorem natsOf_some : ∀ {xs : List V} {ns : List Nat}, natsOf xs = some ns → xs = ns.map (fun n : Nat => V.int (n : Int)) ∧ ∀ n ∈ ns, n < 256
  | [], ns, h => by cases h; exact ⟨rfl, fun _ h => nomatch h⟩
  | .int n :: r, ns, h => by
    simp only [natsOf] at h
    split at h
    · rename_i hn
      simp only [Option.map_eq_some_iff] at h
      obtain ⟨a, h1, rfl⟩ := h
      obtain ⟨e1, e2⟩ := natsOf_some h1
      refine ⟨?_, fun m hm => ?_⟩
      · rw [e1, List.map_cons, Int.toNat_of_nonneg hn.1]
      · rcases List.mem_cons.mp hm with rfl | hm
        · omega
        · exact e2 m hm
    · cases h
  | .none :: r, ns, h => by simp [natsOf] at h
  | .bool _ :: r, ns, h => by simp [natsOf] at h
  | .ref _ :: r, ns, h => by simp [natsOf] at h

theorem bytes_take : ∀ {ns : List Nat} {vs : List Value}, VRs α (ns.map (fun n : Nat => V.int (n : Int))) vs → (∀ n ∈ ns, n < 256) →
    (vs.takeWhile fun | .int i _ => 0 ≤ i && i < 256 | _ => false) = vs
  | [], _, .nil, _ => rfl
  | n :: ns, _, .cons x r, hb => by
    obtain ⟨t, rfl⟩ := x.int_inv
    have h1 := hb n (.head _)
    rw [List.takeWhile_cons_of_pos (by simp; omega), bytes_take r fun m hm => hb m (.tail _ hm)]
theorem bytes_map : ∀ {ns : List Nat} {vs : List Value}, VRs α (ns.map (fun n : Nat => V.int (n : Int))) vs →
    vs.filterMap (fun | .int i _ => some i.toNat.toUInt8 | _ => none) = ns.map (·.toUInt8)
  | [], _, .nil => rfl
  | n :: ns, _, .cons x r => by
    obtain ⟨t, rfl⟩ := x.int_inv
    rw [List.filterMap_cons, bytes_map r]
    simp
theorem bytes_back {ns : List Nat} (hb : ∀ n ∈ ns, n < 256) : ((ns.map (·.toUInt8)).toArray).toList.map (·.toNat) = ns := by
  rw [List.map_map]
  conv => rhs; rw [← List.map_id ns]
  apply List.map_congr_left
  intro n hn
  have := hb n hn
  show (UInt8.ofNat n).toNat = n
  rw [UInt8.toNat_ofNat']
  omega

noncomputable def baF : Fn := fun vs H => match vs with
  | [.ref k] => match H[k]? with
    | some (.list xs) => if xs.length < 1000000 then match natsOf xs with
      | some ns => some (.ref H.length, H ++ [.ba ns])
      | none => none
      else none
    | some (.tup xs) => if xs.length < 1000000 then match natsOf xs with
      | some ns => some (.ref H.length, H ++ [.ba ns])
      | none => none
      else none
    | _ => none
  | _ => none
end Mine

namespace Mine
open PySem PySem.W PyProof.Rows PySem.Calls

variable {C : Cx} {B : Base} {α : List Addr} {loc : Loc} {H : Hp} {s : Shared}

abbrev sliceObj (l u st : Value) : Obj := { cls := .type "slice", dict := none, data := .fields #[l, u, st], slots := #[] }

theorem C_Slice2 {M : Model} {A : Around} {E : Value → Shared → Prop} {env : Env} {lo hi : Expr} {p : Pos} {Q : Value → Shared → Prop}
    (h : wpC M A (eval lo env) (fun l s₁ => wpC M A (eval hi env) (fun u s₂ => Q (.ref s₂.heap.objs.size) { s₂ with heap := s₂.heap.push (sliceObj l u .none) }) E s₁) E s) :
    wpC M A (eval (.Slice (some lo) (some hi) none p) env) Q E s := by
  rw [arm_eval_Slice]
  show wpC M A (do let l ← eval lo env; let u ← holding [l] (eval hi env); let s ← holding [l, u] (pure .none); newFields "slice" [l, u, s]) Q E s
  exact wpC_bind (wpC_then h fun l s₁ h₁ => wpC_bind (wpC_holding (wpC_then h₁ fun u s₂ h₂ => wpC_bind (wpC_holding (wpC_pure (wpC_of (wpAny_newObj_type h₂)))))))
theorem C_Slice1 {M : Model} {A : Around} {E : Value → Shared → Prop} {env : Env} {hi : Expr} {p : Pos} {Q : Value → Shared → Prop}
    (h : wpC M A (eval hi env) (fun u s₂ => Q (.ref s₂.heap.objs.size) { s₂ with heap := s₂.heap.push (sliceObj .none u .none) }) E s) :
    wpC M A (eval (.Slice none (some hi) none p) env) Q E s := by
  rw [arm_eval_Slice]
  show wpC M A (do let l ← pure Value.none; let u ← holding [l] (eval hi env); let s ← holding [l, u] (pure .none); newFields "slice" [l, u, s]) Q E s
  exact wpC_bind (wpC_pure (wpC_bind (wpC_holding (wpC_then h fun u s₂ h₂ => wpC_bind (wpC_holding (wpC_pure (wpC_of (wpAny_newObj_type h₂))))))))

section
variable {prog : Program} {w : World} {A : Around} {E : Value → Shared → Prop}
theorem slicePart_int {i : Int} {t : Tok} {Q : Option Int → Shared → Prop} (h : Q (some i) s) : wpAny (model prog w) A (Builtin.Slice.slicePartIndex (.int i t)) Q E s := by
  unfold Builtin.Slice.slicePartIndex
  rw [if_neg (show ¬ ((Value.int i t == Value.none) = true) from Bool.false_ne_true)]
  refine wpAny_bind (wpAny_specialOf (T := "int") (typeIs_int s i t) int_index ?_)
  rw [if_neg (by decide)]
  exact wpAny_bind (wpAny_of_eq (a := i) rfl (wpAny_pure h))
theorem range_pick (xs : List Value) (a : Nat) : ∀ k : Nat, (List.range k).filterMap (fun (j : Nat) => (xs.toArray)[((a : Int) + (j : Int) * 1).toNat]?) = (xs.drop a).take k
  | 0 => by simp
  | k + 1 => by
    rw [List.range_succ, List.filterMap_append, range_pick xs a k, List.take_add_one]
    congr 1
    have e : ((a : Int) + (k : Int) * 1).toNat = a + k := by omega
    simp only [List.filterMap_cons, List.filterMap_nil, e, List.getElem?_drop, List.getElem?_toArray]
    cases h : xs[a + k]? <;> simp
theorem getItem_tup_slice {t sl : Addr} {xs : List Value} {a b : Nat} {ta tb : Tok} {Q : Value → Shared → Prop} (ht : IsTup s.heap t xs.toArray)
    (hs : s.heap.get? sl = some (sliceObj (.int a ta) (.int b tb) .none)) (hab : a ≤ b) (hb : b ≤ xs.length) (hne : ¬ (a = 0 ∧ b = xs.length)) (hz : xs.length ≤ sizeLine)
    (h : Q (.ref s.heap.objs.size) { s with heap := s.heap.push { cls := .type "tuple", dict := none, data := .seq ((xs.drop a).take (b - a)).toArray 0, slots := #[] } }) :
    wpAny (model prog w) A (getItem (.ref t) (.ref sl)) Q E s := by
  have hTs : s.TypeIs (.ref sl) "slice" := ⟨_, hs, rfl⟩
  unfold getItem
  refine wpAny_holding ?_
  refine wpAny_bind (wpAny_sequenceKey ht.typeIs (by decide) ?_)
  refine wpAny_bind (wpAny_callSpecial?_slot (name := Str.ofString "__getitem__") ht.typeIs slot_tuple_getitem
    (wpAny_call_entry slot_tuple_getitem ht.typeIs entry_tuple_getitem ?_ (args_tuple_getitem _ _)))
  show wpAny _ _ (Builtin.Tuple.tupleItemsOf (.ref t) >>= _) _ _ s
  refine wpAny_bind (tupleItemsOf_ ht ?_)
  refine wpAny_bind (wpAny_typeOf hTs ?_)
  rw [if_pos (by decide)]
  refine wpAny_bind ?_
  unfold Builtin.Slice.sliceApplied Builtin.Slice.sliceFields
  refine wpAny_bind (wpAny_bind (wpAny_field hs rfl (x := .int a ta) rfl (wpAny_bind (wpAny_field hs rfl (x := .int b tb) rfl (wpAny_bind (wpAny_field hs rfl (x := .none) rfl (wpAny_pure ?_)))))))
  dsimp only
  refine wpAny_bind (wpAny_of_eq (a := none) rfl ?_)
  rw [if_neg (by decide)]
  refine wpAny_bind (slicePart_int (wpAny_bind (slicePart_int (wpAny_bind (wpAny_pure ?_)))))
  have e1 : Builtin.Slice.sliceAdjust (some (a : Int)) (some (b : Int)) ((none : Option Int).getD 1) (xs.toArray.size : Int) = ((a : Int), (b : Int)) := by
    unfold Builtin.Slice.sliceAdjust
    simp only [Option.getD_none, List.size_toArray]
    rw [if_neg (by omega), if_neg (by omega)]
    simp only [show ¬ ((1 : Int) < 0) by decide, if_false]
    congr 1 <;> omega
  rw [e1]
  refine wpAny_pure ?_
  have e2 : Builtin.Slice.slicePlaces (a : Int) (b : Int) ((none : Option Int).getD 1) = b - a := by
    unfold Builtin.Slice.slicePlaces
    simp only [Option.getD_none, show (1 : Int) > 0 by decide, if_true, Int.ediv_one]
    split <;> omega
  dsimp only
  rw [e2, if_neg (by simp; omega)]
  refine wpAny_bind ?_
  unfold Builtin.Tuple.tupleExact
  have e3 := range_pick xs a (b - a)
  refine wpAny_newObj_type (wpAny_pure ⟨_, rfl, wpAny_pure ?_⟩) ?_
  · simp only [Option.getD_none]
    rw [e3]; exact h
  · show (List.toArray _).size ≤ sizeLine
    simp only [Option.getD_none]
    rw [e3]; simp; omega
end

noncomputable def slX (f g h : XF) : XF := fun loc H => match f loc H with
  | some (.ref k, H1) => match g loc H1 with
    | some (.int a, H2) => match h loc H2 with
      | some (.int b, H3) => match H3[k]? with
        | some (.tup xs) => if 0 ≤ a ∧ a ≤ b ∧ b ≤ xs.length ∧ ¬ (a = 0 ∧ b = xs.length) ∧ xs.length < 1000000 then
            some (.ref H3.length, H3 ++ [.tup ((xs.drop a.toNat).take (b.toNat - a.toNat))]) else none
        | _ => none
      | _ => none
    | _ => none
  | _ => none
theorem sim_sl (K : COk C) {e lo hi p pos f g h} (h1 : SimE C e f) (h2 : SimE C lo g) (h3 : SimE C hi h) : SimE C (.Subscript e (.Slice (some lo) (some hi) none p) pos) (slX f g h) := by
  intro B α loc H s v H' Q E R h hQ
  unfold slX at h
  split at h
  · rename_i k H1 e1
    split at h
    · rename_i a H2 e2
      split at h
      · rename_i b H3 e3
        split at h
        · rename_i xs hk
          split at h
          · rename_i hb
            cases h
            refine C_Subscript (h1 R e1 fun α1 va s1 p1 R1 ra => C_Slice2 (h2 R1 e2 fun α2 vl s2 p2 R2 rl => h3 R2 e3 fun α3 vu s3 p3 R3 ru => ?_))
            obtain ⟨ta, rfl⟩ := rl.int_inv
            obtain ⟨tb, rfl⟩ := ru.int_inv
            obtain ⟨t, vs, n, rfl, ht, ho, rv⟩ := R3.tupAt hk ((ra.mono p2).mono p3)
            have hlen := rv.length
            obtain ⟨a', rfl⟩ := Int.eq_ofNat_of_zero_le hb.1
            obtain ⟨b', rfl⟩ := Int.eq_ofNat_of_zero_le (Int.le_trans hb.1 hb.2.1)
            have ht' : IsTup (s3.heap.push (sliceObj (.int (a' : Int) ta) (.int (b' : Int) tb) .none)) t vs.toArray := ⟨_, Heap.get?_push_of_some _ ho, rfl, n, rfl⟩
            have R4 := R3.ext (s' := { s3 with heap := s3.heap.push (sliceObj (.int (a' : Int) ta) (.int (b' : Int) tb) .none) }) (fun b o e => Heap.get?_push_of_some _ e) rfl rfl
            obtain ⟨q1, q2, q3⟩ := R4.made K (tk := s3.toks) (OR.tup (n := 0) ((rv.drop a').take (b' - a')))
            refine wpC_of (tail_any ht'.typeIs slot_tuple_getitem.lookup (getItem_tup_slice (a := a') (b := b') ht' (Heap.get?_push_size _ rfl) (by omega) (by omega) (by omega) (by rw [hlen, sizeLine_eq]; omega) ?_) rfl)
            exact hQ _ _ _ (((p1.trans p2).trans p3).trans q1) q2 q3
          · cases h
        · cases h
      · cases h
    · cases h
  · cases h

/-- script[:30] -/
noncomputable def takeX (f h : XF) : XF := fun loc H => match f loc H with
  | some (.ref k, H1) => match h loc H1 with
    | some (.int b, H2) => match H2[k]? with
      | some (.list xs) => if 0 ≤ b ∧ xs.length < 1000000 then some (.ref H2.length, H2 ++ [.list (xs.take b.toNat)]) else none
      | _ => none
    | _ => none
  | _ => none
theorem pick_take (items : Array Value) (b : Nat) : slicePick items none (some (b : Int)) none = (items.toList.take b).toArray := by
  by_cases hb : b ≤ items.size
  · exact slicePick_upto items b hb
  · have h0 := slicePick_upto items items.size (Nat.le_refl _)
    have e : sliceBounds none (some (b : Int)) none items.size = sliceBounds none (some (items.size : Int)) none items.size := by
      unfold sliceBounds
      simp only [Option.getD_none, show (1 : Int) > 0 by decide, if_true]
      rw [if_neg (by omega), if_neg (by omega)]
      congr 2
      omega
    unfold slicePick at h0 ⊢
    rw [e, h0]
    rw [List.take_of_length_le (by simp), List.take_of_length_le (by simp; omega)]
theorem sim_take (K : COk C) {e hi p pos f h} (h1 : SimE C e f) (h3 : SimE C hi h) : SimE C (.Subscript e (.Slice none (some hi) none p) pos) (takeX f h) := by
  intro B α loc H s v H' Q E R h hQ
  unfold takeX at h
  split at h
  · rename_i k H1 e1
    split at h
    · rename_i b H3 e3
      split at h
      · rename_i xs hk
        split at h
        · rename_i hb
          cases h
          refine C_Subscript (h1 R e1 fun α1 va s1 p1 R1 ra => C_Slice1 (h3 R1 e3 fun α3 vu s3 p3 R3 ru => ?_))
          obtain ⟨tb, rfl⟩ := ru.int_inv
          obtain ⟨t, vs, n, rfl, ht, ho, rv⟩ := R3.listAt hk (ra.mono p3)
          have hlen := rv.length
          obtain ⟨b', rfl⟩ := Int.eq_ofNat_of_zero_le hb.1
          have ht' : (s3.heap.push (sliceObj .none (.int (b' : Int) tb) .none)).IsList t vs.toArray := ⟨_, Heap.get?_push_of_some _ ho, rfl, n, rfl⟩
          have R4 := R3.ext (s' := { s3 with heap := s3.heap.push (sliceObj .none (.int (b' : Int) tb) .none) }) (fun b o e => Heap.get?_push_of_some _ e) rfl rfl
          obtain ⟨q1, q2, q3⟩ := R4.made K (tk := s3.toks) (OR.list (n := 0) (rv.take b'))
          refine wpC_of (tail_any (Heap.IsList.typeIs ht') slot_list_getitem.lookup (wpAny_getItem_list_slice (lo := none) (hi := some (b' : Int)) (st := none) ht' ⟨_, Heap.get?_push_size _ rfl, rfl, rfl⟩ .none (.int _ _) .none (by simp) ?_ (by rw [List.size_toArray, hlen, sizeLine_eq]; omega)) rfl)
          rw [pick_take]
          exact hQ _ _ _ ((p1.trans p3).trans q1) q2 q3
        · cases h
      · cases h
    · cases h
  · cases h
end Mine

namespace Mine
open PySem PySem.W PyProof.Rows PySem.Calls

variable {C : Cx} {B : Base} {α : List Addr} {loc : Loc} {H : Hp} {s : Shared}

section
variable {prog : Program} {w : World} {A : Around} {E : Value → Shared → Prop}
theorem C_call_entry {T : String} {name : Str} {id : String} {b : Builtin} {self : Value} {rest : List Value} {Q : Value → Shared → Prop} (slot : Slot T name id) (hT : s.TypeIs self T)
    (entry : entryFor table id = some b) (ok : okCode (.builtin id ⟨self :: rest, []⟩) = true) (h : wpC (model prog w) A.in1 (b ⟨self :: rest, []⟩) (fun fin s' => ∃ v, fin = .done (.ret v) ∧ Q v s') E s)
    (args : argsOk id ⟨self :: rest, []⟩) : wpC (model prog w) A (call (.builtin id) (self :: rest)) Q E s := by
  refine wpC_call (codeC_call_builtin slot.plain entry ok (slot.check _ _ _ _ _ _ _ _ hT args (wpC_mono h (fun fin s' hf => ?_) fun _ _ x => x)))
  obtain ⟨v, rfl, hv⟩ := hf
  exact hv
theorem C_callSpecial {T : String} {name : Str} {id : String} {self : Value} {args : List Value} {Q : Option Value → Shared → Prop} (hT : s.TypeIs self T) (h : Slot T name id)
    (hc : wpC (model prog w) A (call (.builtin id) (self :: args)) (fun v => Q (some v)) E s) : wpC (model prog w) A (callSpecial? self name args) Q E s := by
  simp only [callSpecial?]
  refine wpC_bind (wpC_of (wpAny_specialOf hT h.lookup ?_))
  simp only [h.bind]
  exact wpC_holding (wpC_bind (wpC_pure (wpC_bind (wpC_then hc fun v s' h' => wpC_pure h'))))

theorem tup_no_int : typeLookup (.type "tuple") "__int__" = pure none := by rw [typeLookup_type, builtinLookup_eq_fast]; kernel_rfl
theorem tup_no_float : typeLookup (.type "tuple") "__float__" = pure none := by rw [typeLookup_type, builtinLookup_eq_fast]; kernel_rfl
theorem tup_not_ba : isSubtype (.type "tuple") (.type "bytearray") = pure false := by rw [isSubtype_type]; kernel_rfl
theorem tup_not_complex : isSubtype (.type "tuple") (.type "complex") = pure false := by rw [isSubtype_type]; kernel_rfl

theorem baSliceParts {sl : Addr} {a b : Int} {ta tb : Tok} {Q : Value × Value × Value → Shared → Prop} (hs : s.heap.get? sl = some (sliceObj (.int a ta) (.int b tb) .none))
    (h : Q (rawInt a, rawInt b, .none) s) : wpAny (model prog w) A (Builtin.Bytes.sliceParts (.ref sl)) Q E s := by
  unfold Builtin.Bytes.sliceParts
  have part : ∀ {i : Int} {t : Tok} {Q' : Value → Shared → Prop}, Q' (rawInt i) s → wpAny (model prog w) A (do
      if Value.int i t == .none then return .none
      if (← specialOf (.int i t) "__index__").isNone then
        rule "bytes.slice.part-no-index"; raiseError "TypeError" "slice indices must be integers or None or have an __index__ method"
      return rawInt (← asIndex (.int i t))) Q' E s := by
    intro i t Q' hq
    rw [if_neg (show ¬ ((Value.int i t == Value.none) = true) from Bool.false_ne_true)]
    refine wpAny_bind (wpAny_specialOf (T := "int") (typeIs_int s i t) int_index ?_)
    rw [if_neg (by decide)]
    exact wpAny_bind (wpAny_of_eq (a := i) rfl (wpAny_pure hq))
  refine wpAny_bind (wpAny_field hs rfl (x := .none) rfl ?_)
  refine wpAny_bind (wpAny_of_eq (a := Value.none) rfl ?_)
  rw [if_neg (by decide)]
  refine wpAny_bind (wpAny_field hs rfl (x := .int a ta) rfl ?_)
  refine wpAny_bind (part ?_)
  refine wpAny_bind (wpAny_field hs rfl (x := .int b tb) rfl ?_)
  refine wpAny_bind (part ?_)
  exact wpAny_pure h

theorem setItem_ba_slice {a sl t : Addr} {b : Array UInt8} {lo hi : Nat} {ta tb : Tok} {xs : List Value} {n : Nat} {ns : List Nat} {α : List Addr} {Q : Unit → Shared → Prop}
    (ho : s.heap.get? a = some (baObj b)) (hs : s.heap.get? sl = some (sliceObj (.int lo ta) (.int hi tb) .none))
    (ht : s.heap.get? t = some { cls := .type "tuple", dict := none, data := .seq xs.toArray n, slots := #[] }) (rv : VRs α (ns.map (fun n : Nat => V.int (n : Int))) xs) (hb : ∀ n ∈ ns, n < 256)
    (h1 : lo ≤ hi) (h2 : hi ≤ b.size) (h3 : ns.length = hi - lo) (h4 : 0 < ns.length) (hz : b.size ≤ sizeLine)
    (h : ∀ h', h'.get? a = some (baObj (b.extract 0 lo ++ (ns.map (·.toUInt8)).toArray ++ b.extract hi b.size)) → (∀ c o, c ≠ a → s.heap.get? c = some o → h'.get? c = some o) → Q () { s with heap := h' }) :
    wpC (model prog w) A (setItem (.ref a) (.ref sl) (.ref t)) Q E s := by
  have hT : s.TypeIs (.ref a) "bytearray" := ⟨_, ho, rfl⟩
  have hTs : s.TypeIs (.ref sl) "slice" := ⟨_, hs, rfl⟩
  have hTt : s.TypeIs (.ref t) "tuple" := ⟨_, ht, rfl⟩
  have hat : a ≠ t := by
    rintro rfl
    exact absurd (congrArg Obj.cls (Option.some.inj (ho.symm.trans ht))) (by show ¬ (Value.type "bytearray" = Value.type "tuple"); decide)
  have hlen := rv.length
  rw [List.length_map] at hlen
  unfold setItem
  refine wpC_holding ?_
  refine wpC_bind (wpC_of (wpAny_sequenceKey hT (by decide) ?_))
  refine wpC_bind (C_callSpecial hT slot_ba_setitem (C_call_entry slot_ba_setitem hT entry_ba_setitem (by show (!badIds.contains "bytearray.__setitem__") = true; decide +kernel) ?_ (args_ba_setitem _ _ _)))
  show wpC _ _ (Builtin.Bytes.subscript? (.ref sl) >>= _) _ _ s
  refine wpC_bind ?_
  unfold Builtin.Bytes.subscript?
  refine wpC_bind (wpC_of (wpAny_specialOf hTs slice_no_index ?_))
  rw [if_pos (by decide)]
  refine wpC_pure ?_
  dsimp only
  refine wpC_bind (wpC_of (wpAny_typeOf hTs ?_))
  rw [if_neg (by decide)]
  refine wpC_bind (wpC_of (baSliceParts hs ?_))
  rw [if_neg (by unfold Builtin.Bytes.sameRef; simpa using hat)]
  refine wpC_bind (wpC_of (wpAny_isInstance hTt tup_not_ba ?_))
  rw [if_pos (by decide)]
  refine wpC_bind ?_
  unfold orM
  refine wpC_bind (wpC_bind (wpC_of (wpAny_specialOf hTt (seq_no_index (.inr rfl)) (wpC_pure ?_))))
  show wpC _ _ ((specialOf (.ref t) (Str.ofString "__int__") >>= fun r => pure r.isSome) >>= _) _ _ s
  refine wpC_bind (wpC_bind (wpC_of (wpAny_specialOf hTt tup_no_int (wpC_pure ?_))))
  show wpC _ _ ((specialOf (.ref t) (Str.ofString "__float__") >>= fun r => pure r.isSome) >>= _) _ _ s
  refine wpC_bind (wpC_bind (wpC_of (wpAny_specialOf hTt tup_no_float (wpC_pure ?_))))
  show wpC _ _ (isInstance (.ref t) (.type "complex")) _ _ s
  refine wpC_of (wpAny_isInstance hTt tup_not_complex ?_)
  unfold asStr?
  refine wpC_bind (wpC_bind (wpC_of (wpAny_load ht (wpC_pure ?_))))
  rw [if_neg (by decide)]
  refine wpC_bind (wpC_rule ?_)
  have e1 := bytes_take rv hb
  have e2 := bytes_map rv
  refine wpC_bind (call_ba (s := s) ht (.inr rfl) ((ns.map (·.toUInt8)).toArray) ((congrArg List.length e1).trans (by simp)) (by rw [List.size_toArray, hlen, sizeLine_eq]; rw [sizeLine_eq] at hz; omega)
    (congrArg List.toArray ((congrArg (List.filterMap _) e1).trans e2)) fun h₁ hn₁ hk₁ => ?_)
  refine wpC_bind (wpC_holding (wpC_of (baSliceParts (hk₁ _ _ hs) ?_)))
  refine wpC_bind (wpC_of (baPayload hn₁ (wpC_bind (wpC_of (baPayload (hk₁ _ _ ho) ?_)))))
  have e3 : sliceIndices (rawInt (lo : Int)) (rawInt (hi : Int)) .none b.size = pure ((lo : Int), (hi : Int), 1) := by
    have := sliceIndices_raw (some (lo : Int)) (some (hi : Int)) none b.size (by simp)
    refine this.trans ?_
    unfold sliceBounds
    simp only [Option.getD_none, show (1 : Int) > 0 by decide, if_true]
    rw [if_neg (by omega), if_neg (by omega)]
    congr 2
    · omega
    · congr 1; omega
  refine wpC_bind (wpC_of_eq e3 ?_)
  dsimp only
  rw [if_pos (by decide)]
  refine wpC_bind (wpC_rule ?_)
  have e4 : max (lo : Int) (hi : Int) = (hi : Int) := by omega
  have e5 : ((((ns.map (·.toUInt8)).toArray.size : Nat) : Int) != max (lo : Int) (hi : Int) - (lo : Int)) = false := by
    rw [e4]; simp; omega
  rw [e5, if_neg Bool.false_ne_true]
  refine wpC_bind (wpC_of (baWrite (hk₁ _ _ ho) ?_ fun h₂ hn₂ hs₂ => ?_))
  · rw [e4]
    simp only [Array.size_append, Array.size_extract, List.size_toArray, List.length_map, Int.toNat_natCast]
    omega
  · refine wpC_pure ⟨_, rfl, wpC_pure (h h₂ ?_ fun c o hc e => (hs₂.2 c hc).trans (hk₁ c o e))⟩
    rw [hn₂, e4]
    simp only [Int.toNat_natCast]
end
end Mine

namespace Mine
open PySem PySem.W PyProof.Rows PySem.Calls

variable {C : Cx} {B : Base} {α : List Addr} {loc : Loc} {H : Hp} {s : Shared}

noncomputable def storeF (nf : Nat) (f g h : XF) : SF := fun loc H => match f loc H with
  | some (v, H1) => match g loc H1 with
    | some (a, H2) => match h loc H2 with
      | some (i, H3) => match setV nf a i v H3 with
        | some H4 => some (.next, loc, H4)
        | none => none
      | none => none
    | none => none
  | none => none
theorem simS_store {o i pos' e pos f g h} (h1 : SimE C e f) (h2 : SimE C o g) (h3 : SimE C i h) (hs : swapsWithSole [.Subscript o i pos'] e pos.line C.env = pure false)
    (hw : swappedStores [.Subscript o i pos'] e C.env = pure none) (ha : (assignEach [.Subscript o i pos'] C.env).map (·.2) = [assign (.Subscript o i pos') C.env]) :
    SimS C (.Assign [.Subscript o i pos'] e pos) (storeF C.nf f g h) := by
  intro B α loc H s r loc' H' Q E R h hQ
  unfold storeF at h
  split at h
  · rename_i v H1 e1
    split at h
    · rename_i a H2 e2
      split at h
      · rename_i j H3 e3
        split at h
        · rename_i H4 e4
          cases h
          exact C_Assign1 (h1 R e1 fun α1 vv s1 p1 R1 rv => C_assign_Subscript (h2 R1 e2 fun α2 va s2 p2 R2 ra => h3 R2 e3 fun α3 vi s3 p3 R3 ri =>
            wpC_of (setV_ok R3 e4 (ra.mono p3) ri ((rv.mono p2).mono p3) fun s' R' => hQ _ _ _ ((p1.trans p2).trans p3) R' .next))) hs hw ha
        · cases h
      · cases h
    · cases h
  · cases h

noncomputable def setSl (nf : Nat) (a lo hi v : V) (H : Hp) : Option Hp :=
  match a, lo, hi, v with
  | .ref k, .int l, .int u, .ref t => match H[k]?, H[t]? with
    | some (.ba xs), some (.tup ys) => match natsOf ys with
      | some ns => if nf ≤ k ∧ 0 ≤ l ∧ l ≤ u ∧ u ≤ xs.length ∧ ns.length = u.toNat - l.toNat ∧ 0 < ns.length ∧ xs.length < 1000000 then
          some (H.set k (.ba (xs.take l.toNat ++ ns ++ xs.drop u.toNat))) else none
      | none => none
    | _, _ => none
  | _, _, _, _ => none
noncomputable def storeSlF (nf : Nat) (f g h1 h2 : XF) : SF := fun loc H => match f loc H with
  | some (v, H1) => match g loc H1 with
    | some (a, H2) => match h1 loc H2 with
      | some (l, H3) => match h2 loc H3 with
        | some (u, H4) => match setSl nf a l u v H4 with
          | some H5 => some (.next, loc, H5)
          | none => none
        | none => none
      | none => none
    | none => none
  | none => none
theorem simS_storeSl {o lo hi p pos' e pos f g h h'} (h1 : SimE C e f) (h2 : SimE C o g) (h3 : SimE C lo h) (h4 : SimE C hi h') (hs : swapsWithSole [.Subscript o (.Slice (some lo) (some hi) none p) pos'] e pos.line C.env = pure false)
    (hw : swappedStores [.Subscript o (.Slice (some lo) (some hi) none p) pos'] e C.env = pure none) (ha : (assignEach [.Subscript o (.Slice (some lo) (some hi) none p) pos'] C.env).map (·.2) = [assign (.Subscript o (.Slice (some lo) (some hi) none p) pos') C.env]) :
    SimS C (.Assign [.Subscript o (.Slice (some lo) (some hi) none p) pos'] e pos) (storeSlF C.nf f g h h') := by
  intro B α loc H s r loc' H' Q E R h hQ
  unfold storeSlF at h
  split at h
  · rename_i v H1 e1
    split at h
    · rename_i a H2 e2
      split at h
      · rename_i l H3 e3
        split at h
        · rename_i u H4 e4
          split at h
          · rename_i H5 e5
            cases h
            refine C_Assign1 (h1 R e1 fun α1 vv s1 p1 R1 rv => C_assign_Subscript (h2 R1 e2 fun α2 va s2 p2 R2 ra => C_Slice2 (h3 R2 e3 fun α3 vl s3 p3 R3 rl => h4 R3 e4 fun α4 vu s4 p4 R4 ru => ?_))) hs hw ha
            have ra' := (ra.mono p3).mono p4
            have rv' := ((rv.mono p2).mono p3).mono p4
            have rl' := rl.mono p4
            unfold setSl at e5
            split at e5
            · rename_i k l' u' t
              split at e5
              · rename_i xs ys hk ht
                split at e5
                · rename_i ns hn
                  split at e5
                  · rename_i hb
                    cases e5
                    obtain ⟨tl, rfl⟩ := rl'.int_inv
                    obtain ⟨tu, rfl⟩ := ru.int_inv
                    obtain ⟨ad, b, rfl, hl, ho, rb⟩ := R4.baAt hk ra'
                    obtain ⟨td, ws, n, rfl, htl, hto, rw'⟩ := R4.tupAt ht rv'
                    obtain ⟨rfl, hb256⟩ := natsOf_some hn
                    obtain ⟨l1, rfl⟩ := Int.eq_ofNat_of_zero_le hb.2.1
                    obtain ⟨u1, rfl⟩ := Int.eq_ofNat_of_zero_le (Int.le_trans hb.2.1 hb.2.2.1)
                    have hlen : b.size = xs.length := by rw [← rb, List.length_map, Array.length_toList]
                    have R5 := R4.ext (s' := { s4 with heap := s4.heap.push (sliceObj (.int (l1 : Int) tl) (.int (u1 : Int) tu) .none) }) (fun b o e => Heap.get?_push_of_some _ e) rfl rfl
                    have hb' := hb
                    simp only [Int.toNat_natCast] at hb'
                    refine setItem_ba_slice (lo := l1) (hi := u1) (ns := ns) (Heap.get?_push_of_some _ ho) (Heap.get?_push_size _ rfl) (Heap.get?_push_of_some _ hto) rw' hb256 (by omega) (by omega) (by omega) (by omega) (by rw [hlen, sizeLine_eq]; omega) fun h' hn' hk' => ?_
                    refine hQ _ _ _ (((p1.trans p2).trans p3).trans p4) (R5.upd (s' := { s4 with heap := h' }) hl hb.1 (fun c o hc e => hk' c o hc e) rfl rfl hn' (.ba ?_)) .next
                    simp only [Array.toList_append, Array.toList_extract, List.map_append, Int.toNat_natCast]
                    rw [bytes_back hb256, ← rb]
                    congr 1
                    · congr 1
                      simp [List.extract]
                    · rw [← List.map_drop]
                      congr 1
                      simp [List.extract]
                      rw [List.take_of_length_le (by simp)]
                  · cases e5
                · cases e5
              · cases e5
            · cases e5
          · cases h
        · cases h
      · cases h
    · cases h
  · cases h

/-! ### method append, as a statement -/
noncomputable def isLst (H : Hp) (k : Nat) : Bool := match H[k]? with
  | some (.list _) => true
  | _ => false
noncomputable def appF (nf : Nat) (f g : XF) : SF := fun loc H => match f loc H with
  | some (.ref k, H1) => if isLst H1 k then match g loc H1 with
    | some (v, H2) => match H2[k]? with
      | some (.list xs) => if nf ≤ k ∧ xs.length < 1000000 then some (.next, loc, H2.set k (.list (xs ++ [v]))) else none
      | _ => none
    | none => none
    else none
  | _ => none
theorem simS_append {o apos e cpos pos f g} (h1 : SimE C o f) (h2 : SimE C e g)
    (he : ∃ pl, eval (.Call (.Attribute o (Str.ofString "append") apos) [e] [] cpos) C.env = (do
      let ov ← eval o C.env
      standAt apos.atName
      let (f, first) ← holding [ov] (getMethod ov (Str.ofString "append") pl)
      callWith cpos f first (backTo cpos (starEach [e] C.env)) []))
    (hst : starEach [e] C.env = (false, eval e C.env) :: starEach [] C.env)
    (hi : interactive C.env = false) (hs : swapsWith (.Call (.Attribute o (Str.ofString "append") apos) [e] [] cpos) none pos.line C.env = pure false) :
    SimS C (.Expr (.Call (.Attribute o (Str.ofString "append") apos) [e] [] cpos) pos) (appF C.nf f g) := by
  intro B α loc H s r loc' H' Q E R h hQ
  unfold appF at h
  split at h
  · rename_i k H1 e1
    split at h
    · rename_i hl1
      split at h
      · rename_i v H2 e2
        split at h
        · rename_i xs hk
          split at h
          · rename_i hb
            cases h
            refine C_Expr ?_ hi hs
            obtain ⟨pl, he⟩ := he
            rw [he]
            have hl1' : ∃ ys, H1[k]? = some (.list ys) := by
              unfold isLst at hl1
              split at hl1
              · rename_i ys hy; exact ⟨ys, hy⟩
              · cases hl1
            obtain ⟨ys, hy⟩ := hl1'
            refine wpC_bind (h1 R e1 fun α1 va s1 p1 R1 ra => wpC_bind (wpC_standAt (wpC_bind (wpC_holding ?_))))
            obtain ⟨a, us, n, rfl, hal, ho, _⟩ := R1.listAt hy ra
            refine wpC_of (getMethod_list_append ho rfl rfl ?_)
            dsimp only
            have hargs := h2 R1 e2 (E := E) (Q := fun w s' => wpC (model C.prog C.w) C.A (call (.builtin "list.append") ([.ref a] ++ [w]) []) (fun v s' => (∀ a, v ≠ .ref a) ∧ Q .next s') E s') fun α2 vb s2 p2 R2 rb => by
              obtain ⟨a2, us2, n2, e4, hal2, ho2, rv2⟩ := R2.listAt hk (ra.mono p2)
              cases e4
              refine wpC_of (call_meets slot_list_append ⟨_, ho2, rfl⟩ entry_list_append (args_list_append _ _) (AutoListH.list_append_list_val_0 a us2.toArray n2 vb (by rw [List.size_toArray, rv2.length, sizeLine_eq]; omega)) ⟨ho2, ?_⟩)
              refine ⟨(fun _ q => nomatch q), hQ _ _ _ (p1.trans p2) (R2.upd (s' := { s2 with heap := s2.heap.update a (Obj.mapSeq fun x => x.push vb) }) (o := listObj (us2 ++ [vb]).toArray (n2 + 1)) hal2 hb.1 (fun c o hc e => ((Heap.SameBut.update ..).2 c hc).trans e) rfl rfl ?_ (.list (rv2.append (.cons rb .nil)))) .next⟩
              refine (Heap.get?_update_self _ ho2 (by simp [Obj.mapSeq, Obj.isFreed])).trans ?_
              simp [Obj.mapSeq, listObj]
            rw [hst]
            refine C_callWith_builtin rfl (C_evalArgs (C_spliced_raw (wpC_then hargs fun w s' hw => ?_)))
            exact C_spliced_nil (env := C.env) (pos := cpos) hw
          · cases h
        · cases h
      · cases h
    · cases h
  · cases h

/-! ### loops -/
section
variable {prog : Program} {w : World} {A : Around} {env : Env} {R : Result → Shared → Prop}
theorem codeC_forTurn {target it body}
    (turn : wpC (model prog w) A (pyNext it) (fun r s₁ => match r with
      | none => R (.ok .next) s₁
      | some v => wpC (model prog w) A (letOwnedTupleGo target it v) (fun _ s₁' => wpC (model prog w) A (assign target env v) (fun _ s₂ => wpC (model prog w) A (execs body env) (fun f s₃ => match f with
          | .next | .cont => codeC (model prog w) A (.forLoop target it body [] env) R s₃
          | .brk => R (.ok .next) s₃
          | .ret v => R (.ok (.ret v)) s₃) (fun _ _ => False) s₂) (fun _ _ => False) s₁') (fun _ _ => False) s₁) (fun _ _ => False) s) :
    codeC (model prog w) A (.forLoop target it body [] env) R s := by
  refine codeC_of_tree ?_
  rw [Around.under_of_weight (by rfl)]
  show wpC _ _ ((forTurn target it body [] env).onRaise (fun x => do noteFrame x env; theTreesLotGoes x)) _ _ s
  refine wpC_onRaise (wpC_mono (E := fun _ _ => False) ?_ (fun _ _ x => x) fun _ _ x => x.elim)
  simp only [forTurn]
  refine wpC_bind (wpC_standAt (wpC_bind (wpC_onRaise (wpC_mono turn (fun r s₁ h₁ => ?_) fun _ _ x => x.elim))))
  cases r with
  | none => exact wpC_pure ⟨rfl, rfl, codeC_block_nil h₁⟩
  | some v =>
    refine wpC_bind (wpC_then h₁ fun _ s₁' h₁' => wpC_bind (wpC_then h₁' fun _ s₂ h₂ => wpC_bind (wpC_then h₂ fun f s₃ h₃ => ?_)))
    cases f with
    | next => exact wpC_pure ⟨rfl, rfl, h₃⟩
    | cont => exact wpC_pure ⟨rfl, rfl, h₃⟩
    | brk => exact wpC_pure h₃
    | ret v => exact wpC_pure h₃
theorem codeC_whileTurn {test body}
    (turn : wpC (model prog w) A (isTrue test env (eval test env)) (fun b s₂ =>
        if b then wpC (model prog w) A (execs body env) (fun f s₃ => match f with
          | .next | .cont => codeC (model prog w) A (.whileLoop test body [] env) R s₃
          | .brk => R (.ok .next) s₃
          | .ret v => R (.ok (.ret v)) s₃) (fun _ _ => False) s₂
        else R (.ok .next) s₂) (fun _ _ => False) s) :
    codeC (model prog w) A (.whileLoop test body [] env) R s := by
  refine codeC_of_tree ?_
  rw [Around.under_of_weight (by rfl)]
  show wpC _ _ ((whileTurn test body [] env).onRaise (fun x => do noteFrame x env; theTreesLotGoes x)) _ _ s
  refine wpC_onRaise (wpC_mono (E := fun _ _ => False) ?_ (fun _ _ x => x) fun _ _ x => x.elim)
  simp only [whileTurn]
  refine wpC_bind (wpC_then turn fun b s₂ h₂ => ?_)
  cases b with
  | false => exact wpC_bind (C_execs_nil (wpC_pure h₂))
  | true =>
    refine wpC_bind (wpC_then h₂ fun f s₃ h₃ => ?_)
    cases f with
    | next => exact wpC_pure ⟨rfl, rfl, h₃⟩
    | cont => exact wpC_pure ⟨rfl, rfl, h₃⟩
    | brk => exact wpC_pure h₃
    | ret v => exact wpC_pure h₃
end

/-- a target is bound -/
noncomputable def SimA (C : Cx) (t : Expr) (asg : V → Loc → Hp → Option Loc) : Prop := ∀ {B α loc H s v v' loc'} {Q : Unit → Shared → Prop} {E}, Rel C B α loc H s → VR α v v' → asg v loc H = some loc' →
  (∀ s', Rel C B α loc' H s' → Q () s') → wpAny (model C.prog C.w) C.A (assign t C.env v') Q E s
noncomputable def nameA (k : Nat) : V → Loc → Hp → Option Loc := fun v loc _ => some (loc.set k (some v))
theorem simA_name {x pos k} (hn : SimN C x k) : SimA C (.Name x pos) (nameA k) := by
  intro B α loc H s v v' loc' Q E R hv h hQ
  cases h
  exact wpAny_assign_Name (hn R hv hQ)
noncomputable def pairA (f g : V → Loc → Hp → Option Loc) : V → Loc → Hp → Option Loc := fun v loc H => match v with
  | .ref k => match H[k]? with
    | some (.tup [a, b]) => match f a loc H with
      | some loc1 => g b loc1 H
      | none => none
    | _ => none
  | _ => none
theorem simA_pair (K : COk C) {t1 t2 n pos f g} (h1 : SimA C t1 f) (h2 : SimA C t2 g) (he : assignEach [t1, t2] C.env = [(false, assign t1 C.env), (false, assign t2 C.env)]) : SimA C (.Tuple [t1, t2] n pos) (pairA f g) := by
  intro B α loc H s v v' loc' Q E R hv h hQ
  unfold pairA at h
  split at h
  · rename_i k
    split at h
    · rename_i a b hk
      split at h
      · rename_i loc1 e1
        obtain ⟨t, vs, n', rfl, ht, ho, rv⟩ := R.tupAt hk hv
        obtain ⟨va, vb, rfl, ra, rb⟩ := rv.two
        refine wpAny_assign_Tuple K.hh (items := [va, vb].toArray) ⟨_, ho, rfl, n', rfl⟩ (by rw [he]; rfl) (by rw [he]; rfl) fun h' hx => ?_
        rw [he]
        have R' := R.ext (s' := { s with heap := h' }) (fun b o e => hx b o (Nat.ne_of_lt (Heap.lt_size e)) e) rfl rfl
        show wpAny _ _ (do holding [vb] (assign t1 C.env va); assignInOrder [assign t2 C.env] [vb]) _ _ _
        refine wpAny_bind (wpAny_holding (h1 R' ra e1 fun s1 R1 => ?_))
        show wpAny _ _ (do holding [] (assign t2 C.env vb); assignInOrder [] []) _ _ _
        refine wpAny_bind (wpAny_holding (h2 R1 rb h fun s2 R2 => ?_))
        exact wpAny_pure (hQ _ R2)
      · cases h
    · cases h
  · cases h

noncomputable def rngLoop (asg : V → Loc → Hp → Option Loc) (body : SF) (a c : Int) : Nat → Nat → Loc → Hp → Option (Fl × Loc × Hp)
  | 0, _, loc, H => some (.next, loc, H)
  | n + 1, i, loc, H => match asg (.int (a + i * c)) loc H with
    | none => none
    | some loc1 => match body loc1 H with
      | some (.next, loc2, H2) => rngLoop asg body a c n (i + 1) loc2 H2
      | r => r
theorem letOwned_plain {I : Addr} {o : Obj} {target : Expr} {v : Value} {M : Model} {A : Around} {Q : Unit → Shared → Prop} {E} {n : String} {vs : Array Value} (ho : s.heap.get? I = some o) (hc : o.cls = .type n) (hd : o.data = .fields vs)
    (hn : (["enumerate", "zip", "dict_itemiterator", "dict_reverseitemiterator", "odict_iterator", "itertools.zip_longest", "itertools.pairwise"] : List String).contains n = false) (h : Q () s) :
    wpAny M A (letOwnedTupleGo target (.ref I) v) Q E s := by
  unfold letOwnedTupleGo
  split
  · cases v <;> first | exact wpAny_pure h | skip
    dsimp only
    refine wpAny_bind (wpAny_load ho ?_)
    rw [hc, hd]
    dsimp only
    rw [hn, Bool.false_and, if_neg Bool.false_ne_true]
    exact wpAny_pure h
  · cases v <;> first | exact wpAny_pure h | skip
    dsimp only
    refine wpAny_bind (wpAny_load ho ?_)
    rw [hc, hd]
    dsimp only
    rw [hn, Bool.false_and, if_neg Bool.false_ne_true]
    exact wpAny_pure h
  · exact wpAny_pure h
end Mine

namespace Mine
open PySem PySem.W PyProof.Rows PySem.Calls

variable {C : Cx} {B : Base} {α : List Addr} {loc : Loc} {H : Hp} {s : Shared}

/-- everything stands but an address that is nobody's -/
theorem Rel.extX (R : Rel C B α loc H s) {s' : Shared} {I : Addr} (hk : ∀ b o, b ≠ I → s.heap.get? b = some o → s'.heap.get? b = some o) (hα : I ∉ α) (hO : ¬ Own C I) (hB : B I = none) (hW : C.W.get? I = none)
    (ho : s'.os = s.os) (hg : AllBare s'.gens) : Rel C B α loc H s' where
  len := R.len
  nd := R.nd
  obj := fun k mo e => let ⟨a, o, h1, h2, h3⟩ := R.obj k mo e; ⟨a, o, h1, hk _ _ (fun q => hα (q ▸ List.mem_of_getElem? h1)) h2, h3⟩
  keep := fun b o e => ⟨hk _ _ (fun q => by rw [q, hB] at e; cases e) (R.keep b o e).1, (R.keep b o e).2⟩
  keepW := fun b o e => hk _ _ (fun q => by rw [q, hW] at e; cases e) (R.keepW b o e)
  lo := R.lo
  nf := R.nf
  fz := R.fz
  offL := R.offL
  offC := R.offC
  ns := let ⟨m, h1, h2⟩ := R.ns; ⟨m, h1.at' fun o e => hk _ o (fun q => hO (.inl q.symm)) e, h2⟩
  cl := fun x c e => let ⟨ov, ⟨oc, h1, h1'⟩, h2⟩ := R.cl x c e; ⟨ov, ⟨oc, hk _ _ (fun q => hO (.inr ⟨x, q ▸ e⟩)) h1, h1'⟩, h2⟩
  os := ho.trans R.os
  gens := hg

/-- an address nobody knows: fresh -/
structure Nobody (C : Cx) (B : Base) (α : List Addr) (I : Addr) : Prop where
  a : I ∉ α
  o : ¬ Own C I
  b : B I = none
  w : C.W.get? I = none
theorem Rel.nobody (R : Rel C B α loc H s) : Nobody C B α s.heap.objs.size where
  a := fun hm => by
    obtain ⟨k, hk'⟩ := List.getElem?_of_mem hm
    have hkl : k < H.length := R.len ▸ (List.getElem?_eq_some_iff.mp hk').1
    obtain ⟨b, o', h1, h2, _⟩ := R.obj k _ (List.getElem?_eq_getElem hkl)
    rw [hk'] at h1; cases h1
    exact Nat.lt_irrefl _ (Heap.lt_size h2)
  o := fun h => by
    rcases h with h | ⟨x, h⟩
    · obtain ⟨m, ⟨oL, _, _, hL, _⟩, _⟩ := R.ns
      exact Nat.lt_irrefl _ (h ▸ Heap.lt_size hL)
    · obtain ⟨ov, ⟨oc, hc, _⟩, _⟩ := R.cl x _ h
      exact Nat.lt_irrefl _ (Heap.lt_size hc)
  b := by
    cases e : B s.heap.objs.size with
    | none => rfl
    | some o => exact absurd (Heap.lt_size (R.keep _ _ e).1) (Nat.lt_irrefl _)
  w := by
    cases e : C.W.get? s.heap.objs.size with
    | none => rfl
    | some o => exact absurd (Heap.lt_size (R.keepW _ _ e)) (Nat.lt_irrefl _)

abbrev flowPost (Q : Flow → Shared → Prop) : Result → Shared → Prop := fun r s' => match r with | .ok f => Q f s' | .error _ => False

theorem rng_ok (K : COk C) {t : Expr} {body : List Stmt} {asg f} {I : Addr} {a c : Int} (hA : SimA C t asg) (hb : SimSs C body f) : ∀ (n i : Nat) {B α loc H s r loc' H'} {Q : Flow → Shared → Prop}, Rel C B α loc H s →
    IsRangeIter s.heap I (a + (i : Int) * c) (n : Int) c → Nobody C B α I → rngLoop asg f a c n i loc H = some (r, loc', H') →
    (∀ α' r' s', α <+: α' → Rel C B α' loc' H' s' → FR α' r r' → Q r' s') → codeC (model C.prog C.w) C.A (.forLoop t (.ref I) body [] C.env) (flowPost Q) s
  | 0, i, B, α, loc, H, s, r, loc', H', Q, R, hit, N, h, hQ => by
    cases h
    exact codeC_forTurn (wpC_of (wpAny_pyNext_range_end K.hh hit (by simp) fun h₁ hx => hQ _ _ _ (pre_refl _) (R.extX (fun b o hne e => hx b o hne e) N.a N.o N.b N.w rfl R.gens) .next))
  | n + 1, i, B, α, loc, H, s, r, loc', H', Q, R, hit, N, h, hQ => by
    unfold rngLoop at h
    split at h
    · cases h
    rename_i loc1 e1
    refine codeC_forTurn (wpC_of (wpAny_pyNext_range_item hit (by omega) fun h₁ hit₁ hs₁ => ?_))
    have R1 : Rel C B α loc H { s with heap := h₁, toks := s.toks + 1 } := R.extX (fun b o hne e => (hs₁.2 b hne).trans e) N.a N.o N.b N.w rfl R.gens
    refine wpC_of (letOwned_plain hit₁ rfl rfl (by decide) ?_)
    refine wpC_of (hA R1.rebase (.int _ _) e1 fun s2 R2 => ?_)
    have hI : restOf C α { s with heap := h₁, toks := s.toks + 1 } I = some _ := restOf_some.mpr ⟨hit₁, N.a, N.o⟩
    split at h
    · rename_i loc2 H2 e2
      refine hb R2 e2 fun α2 r2 s3 p2 R3 f3 => ?_
      cases f3
      have k3 := R3.keep I _ hI
      have R3B : Rel C B α2 loc2 H2 s3 := Rel.back R1.toRest R3
      have e4 : a + (i : Int) * c + c = a + ((i + 1 : Nat) : Int) * c := by push_cast; rw [Int.add_mul, Int.one_mul, Int.add_assoc]
      have e5 : ((n + 1 : Nat) : Int) - 1 = (n : Int) := by push_cast; omega
      refine rng_ok K hA hb n (i + 1) R3B ?_ ⟨k3.2.1, k3.2.2, N.b, N.w⟩ h fun α' r' s' p' R' f' => hQ _ _ _ (p2.trans p') R' f'
      rw [← e4, ← e5]; exact k3.1
    · rename_i q hne
      refine hb R2 h fun α2 r2 s3 p2 R3 f3 => ?_
      cases f3 with
      | next => exact absurd h (hne _ _)
      | ret x => exact hQ _ _ _ p2 (Rel.back R1.toRest R3) (.ret x)

/-! lists and tuples -/
noncomputable def itemsAt (H : Hp) (k : Nat) : Option (Bool × List V) := match H[k]? with
  | some (.list xs) => some (true, xs)
  | some (.tup xs) => some (false, xs)
  | _ => none
noncomputable def seqLoop (asg : V → Loc → Hp → Option Loc) (body : SF) (k : Nat) (b : Bool) : Nat → Nat → Loc → Hp → Option (Fl × Loc × Hp)
  | n, i, loc, H => match itemsAt H k with
    | some (b', xs) => if b' = b then
      match xs[i]? with
      | none => some (.next, loc, H)
      | some v => match n with
        | 0 => none
        | n + 1 => match asg v loc H with
          | none => none
          | some loc1 => match body loc1 H with
            | some (.next, loc2, H2) => seqLoop asg body k b n (i + 1) loc2 H2
            | r => r
      else none
    | none => none

/-- an iterator over a list (true) or a tuple (false) -/
noncomputable def IsSeqIter (b : Bool) (h : Heap) (I l : Addr) (i : Nat) : Prop := if b then h.IsListIter I l i else h.IsTupleIter I l i
theorem itemsAt_real (R : Rel C B α loc H s) {k : Nat} {b xs} {l : Addr} (e : itemsAt H k = some (b, xs)) (hl : α[k]? = some l) :
    ∃ vs, VRs α xs vs ∧ (if b then s.heap.IsList l vs.toArray else s.heap.IsTuple l vs.toArray) := by
  unfold itemsAt at e
  split at e
  · rename_i ys hy
    cases e
    obtain ⟨a, vs, n, e', hl', ho, rv⟩ := R.listAt hy (.ref _ _ hl)
    cases e'
    exact ⟨vs, rv, ⟨_, ho, rfl, n, rfl⟩⟩
  · rename_i ys hy
    cases e
    obtain ⟨a, vs, n, e', hl', ho, rv⟩ := R.tupAt hy (.ref _ _ hl)
    cases e'
    exact ⟨vs, rv, ⟨_, ho, rfl, n, rfl⟩⟩
  · cases e

theorem seq_next_item (b : Bool) {prog w A E} {I l : Addr} {i : Nat} {vs : List Value} {x : Value} {Q : Option Value → Shared → Prop} (hit : IsSeqIter b s.heap I l i)
    (hl : if b then s.heap.IsList l vs.toArray else s.heap.IsTuple l vs.toArray) (hx : vs[i]? = some x)
    (hQ : ∀ h', IsSeqIter b h' I l (i + 1) → Heap.SameBut I s.heap h' → Q (some x) { s with heap := h' }) : wpAny (model prog w) A (pyNext (.ref I)) Q E s := by
  cases b with
  | true => exact wpAny_pyNext_list_item hit hl (by simpa using hx) hQ
  | false => exact wpAny_pyNext_tuple_item hit hl (by simpa using hx) hQ
theorem seq_next_end (b : Bool) {prog w A E} {I l : Addr} {i : Nat} {vs : List Value} {Q : Option Value → Shared → Prop} (hh : A.handled = none) (hit : IsSeqIter b s.heap I l i)
    (hl : if b then s.heap.IsList l vs.toArray else s.heap.IsTuple l vs.toArray) (hx : vs[i]? = none)
    (hQ : ∀ h', Heap.ExtBut I s.heap h' → Q none { s with heap := h' }) : wpAny (model prog w) A (pyNext (.ref I)) Q E s := by
  cases b with
  | true => exact wpAny_pyNext_list_end hh hit hl (by simpa using hx) hQ
  | false => exact wpAny_pyNext_tuple_end hh hit hl (by simpa using hx) hQ
theorem seq_owned (b : Bool) {M A E} {I l : Addr} {i : Nat} {target : Expr} {v : Value} {Q : Unit → Shared → Prop} (hit : IsSeqIter b s.heap I l i) (h : Q () s) : wpAny M A (letOwnedTupleGo target (.ref I) v) Q E s := by
  cases b with
  | true => obtain ⟨o, ho, hc, hd⟩ := hit; exact letOwned_plain ho hc hd (by decide) h
  | false => obtain ⟨o, ho, hc, hd⟩ := hit; exact letOwned_plain ho hc hd (by decide) h
theorem seqIter_obj {b : Bool} {h : Heap} {I l : Addr} {i : Nat} (x : IsSeqIter b h I l i) : ∃ o, h.get? I = some o ∧ ∀ h' : Heap, h'.get? I = some o → IsSeqIter b h' I l i := by
  cases b with
  | true => obtain ⟨o, ho, hc, hd⟩ := x; exact ⟨o, ho, fun h' e => ⟨o, e, hc, hd⟩⟩
  | false => obtain ⟨o, ho, hc, hd⟩ := x; exact ⟨o, ho, fun h' e => ⟨o, e, hc, hd⟩⟩

theorem seq_ok (K : COk C) {t : Expr} {body : List Stmt} {asg f} {I l : Addr} {k : Nat} {b : Bool} (hA : SimA C t asg) (hb : SimSs C body f) : ∀ (n i : Nat) {B α loc H s r loc' H'} {Q : Flow → Shared → Prop}, Rel C B α loc H s → α[k]? = some l →
    IsSeqIter b s.heap I l i → Nobody C B α I → seqLoop asg f k b n i loc H = some (r, loc', H') →
    (∀ α' r' s', α <+: α' → Rel C B α' loc' H' s' → FR α' r r' → Q r' s') → codeC (model C.prog C.w) C.A (.forLoop t (.ref I) body [] C.env) (flowPost Q) s := by
  intro n
  induction n with
  | zero =>
    intro i B α loc H s r loc' H' Q R hl hit N h hQ
    unfold seqLoop at h
    split at h
    · rename_i b' xs e0
      split at h
      · rename_i eb
        subst eb
        split at h
        · rename_i ex
          cases h
          obtain ⟨vs, rv, hL⟩ := itemsAt_real R e0 hl
          refine codeC_forTurn (wpC_of (seq_next_end b' K.hh hit hL ?_ fun h₁ hx => hQ _ _ _ (pre_refl _) (R.extX (fun b o hne e => hx b o hne e) N.a N.o N.b N.w rfl R.gens) .next))
          rw [List.getElem?_eq_none_iff] at ex ⊢
          rw [rv.length]; exact ex
        · cases h
      · cases h
    · cases h
  | succ n ih =>
    intro i B α loc H s r loc' H' Q R hl hit N h hQ
    unfold seqLoop at h
    split at h
    · rename_i b' xs e0
      split at h
      · rename_i eb
        subst eb
        obtain ⟨vs, rv, hL⟩ := itemsAt_real R e0 hl
        split at h
        · rename_i ex
          cases h
          refine codeC_forTurn (wpC_of (seq_next_end b' K.hh hit hL ?_ fun h₁ hx => hQ _ _ _ (pre_refl _) (R.extX (fun b o hne e => hx b o hne e) N.a N.o N.b N.w rfl R.gens) .next))
          rw [List.getElem?_eq_none_iff] at ex ⊢
          rw [rv.length]; exact ex
        · rename_i v ex
          obtain ⟨v', hv', rvv⟩ := rv.get ex
          dsimp only at h
          split at h
          · cases h
          rename_i loc1 e1
          refine codeC_forTurn (wpC_of (seq_next_item b' hit hL hv' fun h₁ hit₁ hs₁ => ?_))
          have R1 : Rel C B α loc H { s with heap := h₁ } := R.extX (fun b o hne e => (hs₁.2 b hne).trans e) N.a N.o N.b N.w rfl R.gens
          refine wpC_of (seq_owned b' hit₁ ?_)
          refine wpC_of (hA R1.rebase rvv e1 fun s2 R2 => ?_)
          obtain ⟨oI, hoI, hoI'⟩ := seqIter_obj hit₁
          have hI : restOf C α { s with heap := h₁ } I = some oI := restOf_some.mpr ⟨hoI, N.a, N.o⟩
          split at h
          · rename_i loc2 H2 e2
            refine hb R2 e2 fun α2 r2 s3 p2 R3 f3 => ?_
            cases f3
            have k3 := R3.keep I _ hI
            have R3B : Rel C B α2 loc2 H2 s3 := Rel.back R1.toRest R3
            refine ih (i + 1) R3B ?_ (hoI' _ k3.1) ⟨k3.2.1, k3.2.2, N.b, N.w⟩ h fun α' r' s' p' R' f' => hQ _ _ _ (p2.trans p') R' f'
            obtain ⟨rr, rfl⟩ := p2
            rw [List.getElem?_append_left (List.getElem?_eq_some_iff.mp hl).1]; exact hl
          · rename_i q hne
            refine hb R2 h fun α2 r2 s3 p2 R3 f3 => ?_
            cases f3 with
            | next => exact absurd h (hne _ _)
            | ret x => exact hQ _ _ _ p2 (Rel.back R1.toRest R3) (.ret x)
      · cases h
    · cases h

noncomputable def forF (asg : V → Loc → Hp → Option Loc) (it : XF) (body : SF) : SF := fun loc H => match it loc H with
  | some (.ref k, H1) => match H1[k]? with
    | some (.rng a b c) => if Builtin.Range.small a b c then rngLoop asg body a c (Builtin.Range.rangeSize a b c).toNat 0 loc H1 else none
    | some (.list xs) => seqLoop asg body k true xs.length 0 loc H1
    | some (.tup xs) => seqLoop asg body k false xs.length 0 loc H1
    | _ => none
  | _ => none
theorem rangeSize_nonneg (a b c : Int) : 0 ≤ Builtin.Range.rangeSize a b c := by
  unfold Builtin.Range.rangeSize
  split <;> split <;> first | omega | (have := Int.ediv_nonneg (a := b - a - 1) (b := c) (by omega) (by omega); omega) | (have := Int.ediv_nonneg (a := a - b - 1) (b := -c) (by omega) (by omega); omega)
theorem simS_for (K : COk C) {t it body pos asg f g} (hA : SimA C t asg) (h1 : SimE C it f) (hb : SimSs C body g) (hs : ∀ x, foldedSetIterable it C.env x = pure x) : SimS C (.For t it body [] pos) (forF asg f g) := by
  intro B α loc H s r loc' H' Q E R h hQ
  unfold forF at h
  split at h
  · rename_i k H1 e1
    refine C_For (h1 R e1 fun α1 va s1 p1 R1 ra => ?_) hs
    have hlt := R1.nobody
    split at h
    · rename_i a b c hk
      split at h
      · rename_i hsm
        obtain ⟨ad, t0, u0, w0, rfl, hal, hr⟩ := R1.rngAt hk ra
        refine wpC_of (wpAny_pyIter_range hr hsm ?_)
        have R2 := R1.ext (s' := { s1 with heap := s1.heap.push { cls := .type "range_iterator", data := .fields #[rawInt a, rawInt (Builtin.Range.rangeSize a b c), rawInt c] } }) (fun b o e => Heap.get?_push_of_some _ e) rfl rfl
        refine rng_ok K hA hb _ 0 R2 ?_ hlt h fun α' r' s' p' R' f' => hQ _ _ _ (p1.trans p') R' f'
        rw [Int.toNat_of_nonneg (rangeSize_nonneg a b c)]
        simpa using Heap.get?_push_size _ rfl
      · cases h
    · rename_i xs hk
      obtain ⟨l, vs, n, rfl, hal, ho, rv⟩ := R1.listAt hk ra
      refine wpC_of (wpAny_pyIter_list (items := vs.toArray) ⟨_, ho, rfl, n, rfl⟩ ?_)
      have R2 := R1.ext (s' := { s1 with heap := s1.heap.push { cls := .type "list_iterator", data := .fields #[.ref l, .int 0 0] } }) (fun b o e => Heap.get?_push_of_some _ e) rfl rfl
      exact seq_ok (b := true) K hA hb _ 0 R2 hal ⟨_, Heap.get?_push_size _ rfl, rfl, rfl⟩ hlt h fun α' r' s' p' R' f' => hQ _ _ _ (p1.trans p') R' f'
    · rename_i xs hk
      obtain ⟨l, vs, n, rfl, hal, ho, rv⟩ := R1.tupAt hk ra
      refine wpC_of (wpAny_pyIter_tuple (items := vs.toArray) ⟨_, ho, rfl, n, rfl⟩ ?_)
      have R2 := R1.ext (s' := { s1 with heap := s1.heap.push { cls := .type "tuple_iterator", data := .fields #[.ref l, .int 0 0] } }) (fun b o e => Heap.get?_push_of_some _ e) rfl rfl
      exact seq_ok (b := false) K hA hb _ 0 R2 hal ⟨_, Heap.get?_push_size _ rfl, rfl, rfl⟩ hlt h fun α' r' s' p' R' f' => hQ _ _ _ (p1.trans p') R' f'
    · cases h
  · cases h

/-! ### while, statements of a call -/
noncomputable def whileLoopF (t : TF) (body : SF) : Nat → Loc → Hp → Option (Fl × Loc × Hp)
  | 0, _, _ => none
  | n + 1, loc, H => match t loc H with
    | some (true, H1) => match body loc H1 with
      | some (.next, loc2, H2) => whileLoopF t body n loc2 H2
      | r => r
    | some (false, H1) => some (.next, loc, H1)
    | none => none
theorem while_ok {t : Expr} {body : List Stmt} {ft f} (h0 : SimT C t ft) (hb : SimSs C body f) : ∀ (n : Nat) {B α loc H s r loc' H'} {Q : Flow → Shared → Prop}, Rel C B α loc H s →
    whileLoopF ft f n loc H = some (r, loc', H') → (∀ α' r' s', α <+: α' → Rel C B α' loc' H' s' → FR α' r r' → Q r' s') → codeC (model C.prog C.w) C.A (.whileLoop t body [] C.env) (flowPost Q) s
  | 0, B, α, loc, H, s, r, loc', H', Q, R, h, hQ => by cases h
  | n + 1, B, α, loc, H, s, r, loc', H', Q, R, h, hQ => by
    unfold whileLoopF at h
    split at h
    · rename_i H1 e1
      refine codeC_whileTurn (h0 R e1 fun α1 s1 p1 R1 => ?_)
      rw [if_pos rfl]
      split at h
      · rename_i loc2 H2 e2
        refine hb R1 e2 fun α2 r2 s2 p2 R2 f2 => ?_
        cases f2
        exact while_ok h0 hb n R2 h fun α' r' s' p' R' f' => hQ _ _ _ ((p1.trans p2).trans p') R' f'
      · rename_i q hne
        refine hb R1 h fun α2 r2 s2 p2 R2 f2 => ?_
        cases f2 with
        | next => exact absurd h (hne _ _)
        | ret x => exact hQ _ _ _ (p1.trans p2) R2 (.ret x)
    · rename_i H1 e1
      cases h
      refine codeC_whileTurn (h0 R e1 fun α1 s1 p1 R1 => ?_)
      rw [if_neg Bool.false_ne_true]
      exact hQ _ _ _ p1 R1 .next
    · cases h
noncomputable def whileF (n : Nat) (t : TF) (body : SF) : SF := fun loc H => whileLoopF t body n loc H
theorem simS_while {t : Expr} {body : List Stmt} {pos ft f} (n : Nat) (h0 : SimT C t ft) (hb : SimSs C body f) : SimS C (.While t body [] pos) (whileF n ft f) := by
  intro B α loc H s r loc' H' Q E R h hQ
  exact C_While (while_ok h0 hb n R h hQ)

noncomputable def exprF (f : XF) : SF := fun loc H => match f loc H with
  | some (.none, H1) => some (.next, loc, H1)
  | _ => none
theorem simS_expr {e pos f} (h1 : SimE C e f) (hi : interactive C.env = false) (hs : swapsWith e none pos.line C.env = pure false) : SimS C (.Expr e pos) (exprF f) := by
  intro B α loc H s r loc' H' Q E R h hQ
  unfold exprF at h
  split at h
  · rename_i H1 e1
    cases h
    refine C_Expr (h1 R e1 fun α1 va s1 p1 R1 ra => ?_) hi hs
    obtain rfl := ra.none_inv
    exact ⟨fun _ q => (nomatch q), hQ _ _ _ p1 R1 .next⟩
  · cases h
noncomputable def assignTF (asg : V → Loc → Hp → Option Loc) (f : XF) : SF := fun loc H => match f loc H with
  | some (v, H1) => match asg v loc H1 with
    | some loc1 => some (.next, loc1, H1)
    | none => none
  | none => none
theorem simS_assignT {t e pos asg f} (hA : SimA C t asg) (h1 : SimE C e f) (hs : swapsWithSole [t] e pos.line C.env = pure false)
    (hw : swappedStores [t] e C.env = pure none) (ha : (assignEach [t] C.env).map (·.2) = [assign t C.env]) : SimS C (.Assign [t] e pos) (assignTF asg f) := by
  intro B α loc H s r loc' H' Q E R h hQ
  unfold assignTF at h
  split at h
  · rename_i v H1 e1
    split at h
    · rename_i loc1 e2
      cases h
      exact C_Assign1 (h1 R e1 fun α1 va s1 p1 R1 ra => wpC_of (hA R1 ra e2 fun s' R' => hQ _ _ _ p1 R' .next)) hs hw ha
    · cases h
  · cases h
end Mine

namespace Mine
open PySem PySem.W PyProof.Rows PySem.Calls

section
variable {prog : Program} {w : World} {A : Around} {s : Shared} {R : Result → Shared → Prop}
theorem codeC_func {body env} (h : wpC (model prog w) (A.deeper env) (execs body env) (fun f s' => R (.ok (.ret (match f with | .ret v => v | _ => .none))) s') (fun _ _ => False) s) :
    codeC (model prog w) A (.func body env) R s := by
  refine codeC_of_tree ?_
  show wpC _ (A.deeper env) (do point; match ← (execs body env).onRaise (leaving env) with | .ret v => ret v | _ => ret .none) _ _ s
  refine wpC_bind (wpC_point (wpC_bind (wpC_onRaise (wpC_mono h (fun f s' h' => ?_) fun _ _ h' => h'.elim))))
  cases f <;> exact wpC_pure h'
theorem codeC_call_cells {a : Addr} {o : Obj} {fd : FuncData} {body : List Stmt} {vals : List Value} {binds : List (Str × Value)}
    (hroom : A.depth < recursionLimit) (ho : s.heap.get? a = some o) (hdata : o.data = .func fd) (hlim : s.heap.NoLimit) (hcd : s.heap.CodeRec fd.code fd.qualname)
    (hbody : fd.body = .stmts body) (hbind : BindsTo s fd ⟨vals, []⟩ binds) (hclo : fd.closure = [])
    (hkind : ∀ x ∈ binds, fd.scope.names.lookup x.1 = some .local ∨ (fd.scope.names.lookup x.1 = some .cell ∧ ((cellsFrom (s.heap.objs.size + 1) fd.scope.names []).lookup x.1).isSome = true))
    (hco : fd.scope.isCoroutine = false) (hgen : fd.scope.isGenerator = false) (hk : fd.scope.kind = .function)
    (h : ∀ s₁, InCallC s (callEnvC fd s.heap.objs.size a).locals (bindL (callEnvC fd s.heap.objs.size a).kindOf binds fun _ => none) (callEnvC fd s.heap.objs.size a).cells
        (bindC (callEnvC fd s.heap.objs.size a).kindOf binds fun _ => none) s₁ →
      wpC (model prog w) (A.deeper (callEnvC fd s.heap.objs.size a)) (execs body (callEnvC fd s.heap.objs.size a)) (fun f s' => R (.ok (.ret (match f with | .ret v => v | _ => .none))) s') (fun _ _ => False) s₁) :
    codeC (model prog w) A (.call (.ref a) ⟨vals, []⟩) R s := by
  refine codeC_of_tree ?_
  show wpC _ A.in1 (callAny (.ref a) ⟨vals, []⟩) _ _ s
  simp only [callAny]
  refine wpC_bind (wpC_of (wpAny_load ho ?_))
  obtain ⟨c, oc, vs, tq, hc, hoc, hdc, hq⟩ := hcd
  simp only [hdata, callFunction, hco, hgen, hbody, hc, hclo]
  refine wpC_bind (m := field (.ref c) 1) (wpC_of (wpAny_field hoc hdc hq (wpC_bind (wpC_pure ?_))))
  refine wpC_bind (wpC_of (hbind _ _ _ _ ?_))
  refine wpC_bind (wpC_of ?_)
  refine wpAny_newFunctionEnv_cells hk hkind fun env he s' x => ?_
  have he' : env = callEnvC fd s.heap.objs.size a := by rw [he]; unfold callEnvC; rw [hc]
  subst he'
  refine wpC_bind (wpC_of (wpAny_enterFrame (hlim.keeps x.toInCall.keep) hroom (wpC_pure ⟨rfl, rfl, codeC_func (h s' x)⟩)))
end

variable {C : Cx} {B : Base} {α : List Addr} {loc : Loc} {H : Hp} {s : Shared}

/-- the context of a callee's frame -/
noncomputable def callee (C : Cx) (fd : FuncData) (names : List Str) (L a : Addr) : Cx := { C with A := C.A.deeper (callEnvC fd L a), env := callEnvC fd L a, names := names }

noncomputable def fnF (np nl : Nat) (dfl : List V) (body : SF) : Fn := fun vs H => if vs.length = np then
  match body ((vs ++ dfl).map some ++ List.replicate nl none) H with
  | some (.ret v, _, H') => some (v, H')
  | some (.next, _, H') => some (.none, H')
  | none => none
  else none

theorem bindL_off {kindOf : Str → Option NameKind} {x : Str} : ∀ {binds : List (Str × Value)} {m}, x ∉ binds.map (·.1) → bindL kindOf binds m x = m x
  | [], m, _ => rfl
  | (n, v) :: r, m, h => by
    unfold bindL
    simp only [List.map_cons, List.mem_cons, not_or] at h
    rw [bindL_off h.2]
    split
    · exact if_neg h.1
    · rfl
theorem bindL_at {kindOf : Str → Option NameKind} {x : Str} {v : Value} : ∀ {binds : List (Str × Value)} {m}, (binds.map (·.1)).Nodup → (x, v) ∈ binds → kindOf x = some .local → bindL kindOf binds m x = some v
  | (n, u) :: r, m, hn, hm, hk => by
    unfold bindL
    simp only [List.map_cons, List.nodup_cons] at hn
    rcases List.mem_cons.mp hm with e | hm
    · cases e
      rw [bindL_off hn.1, if_pos hk]
      simp
    · exact bindL_at hn.2 hm hk
theorem bindC_off {kindOf : Str → Option NameKind} {x : Str} : ∀ {binds : List (Str × Value)} {m}, x ∉ binds.map (·.1) → bindC kindOf binds m x = m x
  | [], m, _ => rfl
  | (n, v) :: r, m, h => by
    unfold bindC
    simp only [List.map_cons, List.mem_cons, not_or] at h
    rw [bindC_off h.2]
    split
    · rfl
    · exact if_neg h.1
theorem bindC_at {kindOf : Str → Option NameKind} {x : Str} {v : Value} : ∀ {binds : List (Str × Value)} {m}, (binds.map (·.1)).Nodup → (x, v) ∈ binds → kindOf x ≠ some .local → bindC kindOf binds m x = some v
  | (n, u) :: r, m, hn, hm, hk => by
    unfold bindC
    simp only [List.map_cons, List.nodup_cons] at hn
    rcases List.mem_cons.mp hm with e | hm
    · cases e
      rw [bindC_off hn.1, if_neg hk]
      simp
    · exact bindC_at hn.2 hm hk

theorem zip_get {names : List Str} {ws : List Value} {vs : List V} {nl : Nat} (rv : VRs α vs ws) {i : Nat} {x : Str} {v : V} (hx : names[i]? = some x) (hv : (vs.map some ++ List.replicate nl none)[i]? = some (some v)) :
    ∃ v', (x, v') ∈ names.zip ws ∧ VR α v v' := by
  by_cases hi : i < vs.length
  · rw [List.getElem?_append_left (by rw [List.length_map]; exact hi), List.getElem?_map, Option.map_eq_some_iff] at hv
    obtain ⟨u, hu, e⟩ := hv
    cases e
    obtain ⟨v', hv', r⟩ := rv.get hu
    refine ⟨v', ?_, r⟩
    rw [List.mem_iff_getElem?]
    exact ⟨i, by rw [List.getElem?_zip_eq_some]; exact ⟨hx, hv'⟩⟩
  · rw [List.getElem?_append_right (by rw [List.length_map]; exact Nat.le_of_not_lt hi)] at hv
    rw [List.getElem?_replicate] at hv
    split at hv <;> cases hv

theorem zip_keys {names : List Str} {ws : List Value} : ((names.zip ws).map (·.1)) = names.take ws.length := by
  induction names generalizing ws with
  | nil => simp
  | cons n r ih => cases ws with
    | nil => simp
    | cons w ws => simp [ih]

/-- what a def of the text must say so that a call of it is its body's run -/
structure DefOk (C : Cx) (fd : FuncData) (a : Addr) (body : List Stmt) (names : List Str) (np : Nat) (dfl : List V) (dws : List Value) : Prop where
  obj : ∃ o, C.W.get? a = some o ∧ o.data = .func fd
  lim : C.W.NoLimit
  cd : C.W.CodeRec fd.code fd.qualname
  body : fd.body = .stmts body
  clo : fd.closure = []
  co : fd.scope.isCoroutine = false
  gen : fd.scope.isGenerator = false
  kind : fd.scope.kind = .function
  bind : ∀ (ws : List Value) (s : Shared), ws.length = np → (∀ b o, C.W.get? b = some o → s.heap.get? b = some o) → BindsTo s fd ⟨ws, []⟩ (names.zip (ws ++ dws))
  kinds : ∀ L : Nat, ∀ x ∈ names.take (np + dws.length), fd.scope.names.lookup x = some .local ∨ (fd.scope.names.lookup x = some .cell ∧ ((cellsFrom (L + 1) fd.scope.names []).lookup x).isSome = true)
  cells : ∀ L x c, (cellsFrom (L + 1) fd.scope.names []).lookup x = some c → fd.scope.names.lookup x ≠ some .local
  nd : names.Nodup
  dfls : ∀ α, VRs α dfl dws

theorem call_def (K : COk C) {fd : FuncData} {a : Addr} {body : List Stmt} {names : List Str} {np nl : Nat} {dfl : List V} {dws : List Value} {f : SF} (hroom : C.A.depth < recursionLimit)
    (D : DefOk C fd a body names np dfl dws) (hb : ∀ L, COk (callee C fd names L a) → SimSs (callee C fd names L a) body f) : CallOk C (.ref a) (fnF np nl dfl f) := by
  intro B α loc H s vs v H' ws Q E R h hv hQ
  unfold fnF at h
  split at h
  · rename_i hnp
    obtain ⟨o, ho, hd⟩ := D.obj
    have hws : ws.length = np := by rw [hv.length]; exact hnp
    refine wpC_call (codeC_call_cells hroom (R.keepW _ _ ho) hd (D.lim.keeps R.keepW) ?_ D.body (D.bind ws s hws R.keepW) D.clo ?_ D.co D.gen D.kind fun s₁ X => ?_)
    · obtain ⟨c, oc, vs', t, e1, e2, e3⟩ := D.cd
      exact ⟨c, oc, vs', t, e1, R.keepW _ _ e2, e3⟩
    · intro x hx
      have : x.1 ∈ (names.zip (ws ++ dws)).map (·.1) := List.mem_map_of_mem hx
      rw [zip_keys, List.length_append, hws] at this
      exact D.kinds _ _ this
    obtain ⟨h₁, tk, rfl, hk₁⟩ := X.done
    have hL := X.toInCall
    have haW : C.W.objs.size ≤ s.heap.objs.size := by
      obtain ⟨m, ⟨oL, _, _, hL, _⟩, _⟩ := R.ns
      exact Nat.le_trans K.aboveW (Nat.le_of_lt (Heap.lt_size hL))
    have K' : COk (callee C fd names s.heap.objs.size a) := {
      hk := D.kind, nd := D.nd, hh := K.hh, apart := X.apart, lne := fun n c hm => ⟨Nat.ne_of_lt (X.above n c hm), Nat.le_trans haW (Nat.le_of_lt (X.above n c hm))⟩
      aboveW := haW }
    have hvd := hv.append (D.dfls α)
    have hndk : ((names.zip (ws ++ dws)).map (·.1)).Nodup := by rw [zip_keys]; exact D.nd.sublist (List.take_sublist _ _)
    have hown : ∀ b, Own (callee C fd names s.heap.objs.size a) b → s.heap.objs.size ≤ b := by
      rintro b (h | ⟨x, h⟩)
      · exact h ▸ Nat.le_refl _
      · exact Nat.le_of_lt (X.above x b (mem_of_lookup h))
    have hαlt : ∀ b ∈ α, b < s.heap.objs.size := fun b hm => by
      obtain ⟨k, hk'⟩ := List.getElem?_of_mem hm
      have hkl : k < H.length := R.len ▸ (List.getElem?_eq_some_iff.mp hk').1
      obtain ⟨b', o', h1, h2, _⟩ := R.obj k _ (List.getElem?_eq_getElem hkl)
      rw [hk'] at h1; cases h1
      exact Heap.lt_size h2
    let B' : Base := fun b => open Classical in if b ∈ α then none else s.heap.get? b
    have hB' : ∀ b o, B' b = some o ↔ (s.heap.get? b = some o ∧ b ∉ α) := fun b o => by
      show (open Classical in if b ∈ α then none else s.heap.get? b) = some o ↔ _
      split
      · rename_i hm; exact ⟨fun e => (nomatch e), fun e => (e.2 hm).elim⟩
      · rename_i hm; exact ⟨fun e => ⟨e, hm⟩, fun e => e.1⟩
    have R1 : Rel (callee C fd names s.heap.objs.size a) B' α ((vs ++ dfl).map some ++ List.replicate nl none) H { s with heap := h₁, toks := tk } := {
      len := R.len, nd := R.nd
      obj := fun k mo e => let ⟨b, o, e1, e2, e3⟩ := R.obj k mo e; ⟨b, o, e1, hk₁ _ _ e2, e3⟩
      keep := fun b o e => by
        obtain ⟨e1, e2⟩ := (hB' b o).mp e
        exact ⟨hk₁ _ _ e1, e2, fun q => Nat.lt_irrefl _ (Nat.lt_of_lt_of_le (Heap.lt_size e1) (hown b q))⟩
      keepW := fun b o e => hk₁ _ _ (R.keepW b o e)
      lo := R.lo, nf := R.nf, fz := R.fz
      offL := fun hm => Nat.lt_irrefl _ (hαlt _ hm)
      offC := fun x c e hm => Nat.lt_irrefl _ (Nat.lt_of_lt_of_le (hαlt _ hm) (hown c (.inr ⟨x, e⟩)))
      ns := ⟨_, X.toInCall.ns, fun i x u hx hu hk => by
        obtain ⟨v', hm, rv⟩ := zip_get hvd hx hu
        exact ⟨v', bindL_at hndk hm hk, rv⟩⟩
      cl := fun x c e => ⟨_, X.cell x c e, fun i u hx hu => by
        obtain ⟨v', hm, rv⟩ := zip_get hvd hx hu
        exact ⟨v', bindC_at hndk hm (D.cells _ x c e), rv⟩⟩
      os := R.os, gens := R.gens }
    -- back to the caller
    have back : ∀ {α' loc' H' s' v'} {u : V}, α <+: α' → Rel (callee C fd names s.heap.objs.size a) B' α' loc' H' s' → VR α' u v' → Rel C B α' loc H' s' := fun {α' loc' H' s' v' u} p R' _ => {
      len := R'.len, nd := R'.nd, obj := R'.obj
      keep := fun b o e => by
        obtain ⟨e1, e2, e3⟩ := R.keep b o e
        obtain ⟨q1, q2, _⟩ := R'.keep b o ((hB' b o).mpr ⟨e1, e2⟩)
        exact ⟨q1, q2, e3⟩
      keepW := R'.keepW, lo := R'.lo, nf := R'.nf, fz := R'.fz
      offL := by
        obtain ⟨m, ⟨oL, _, _, hL, _⟩, _⟩ := R.ns
        exact (R'.keep _ _ ((hB' _ _).mpr ⟨hL, R.offL⟩)).2.1
      offC := fun x c e => by
        obtain ⟨ov, ⟨oc, hc, _⟩, _⟩ := R.cl x c e
        exact (R'.keep _ _ ((hB' _ _).mpr ⟨hc, R.offC x c e⟩)).2.1
      ns := by
        obtain ⟨m, hn, hm⟩ := R.ns
        refine ⟨m, hn.at' fun o e => (R'.keep _ _ ((hB' _ _).mpr ⟨e, R.offL⟩)).1, fun i x u e1 e2 e3 => ?_⟩
        obtain ⟨v', g1, g2⟩ := hm i x u e1 e2 e3
        exact ⟨v', g1, g2.mono p⟩
      cl := fun x c e => by
        obtain ⟨ov, ⟨oc, hc, hcd⟩, hm⟩ := R.cl x c e
        refine ⟨ov, ⟨oc, (R'.keep _ _ ((hB' _ _).mpr ⟨hc, R.offC x c e⟩)).1, hcd⟩, fun i u e1 e2 => ?_⟩
        obtain ⟨v', g1, g2⟩ := hm i u e1 e2
        exact ⟨v', g1, g2.mono p⟩
      os := R'.os, gens := R'.gens }
    split at h
    · rename_i u loc2 H2 e2
      cases h
      refine hb _ K' R1 e2 fun α' r' s' p R' f' => ?_
      cases f' with | ret x => exact hQ _ _ _ p (back p R' x) x
    · rename_i loc2 H2 e2
      cases h
      refine hb _ K' R1 e2 fun α' r' s' p R' f' => ?_
      cases f'
      exact hQ _ _ _ p (back p R' (.none (α := α'))) .none
    · cases h
  · cases h
end Mine

namespace Mine
open PySem PySem.W PyProof.Rows PySem.Calls

section
variable {M : Model} {A : Around} {E : Value → Shared → Prop} {s : Shared} {env : Env}
noncomputable def compPostC (M : Model) (A : Around) (E : Value → Shared → Prop) (use : Option (Value → Sem Unit)) (Q : Value → Shared → Prop) (acc : Value) (C : Addr) (r : Result) (s' : Shared) : Prop :=
  match r, use with
  | .ok _, none => ∃ m, s'.heap.Ns C m ∧ ∀ h', Heap.SameBut C s'.heap h' → Q acc { s' with heap := h' }
  | .ok _, some u => wpC M A (u acc) (fun _ s'' => ∃ m, s''.heap.Ns C m ∧ ∀ h', Heap.SameBut C s''.heap h' → Q .none { s'' with heap := h' }) E s'
  | .error _, _ => False
theorem wpC_standIf {α : Type} {c : Prop} [Decidable c] {pos : Pos} {k : PUnit → Sem α} {Q : α → Shared → Prop} (h : wpC M A (k ()) Q E s) :
    wpC M A (if c then (standAt pos >>= k) else k ()) Q E s := by
  split
  · exact wpC_bind (wpC_standAt h)
  · exact h
theorem C_comprehension {e : Expr} {scope : Scope} {pos : Pos} {newAcc first : Sem Value} {g : Comprehension} {gs : List Comprehension} {cl : List (Str × Addr)} {use : Option (Value → Sem Unit)}
    {Q : Value → Shared → Prop}
    (hcl : clausesOf e = g :: gs) (hs : ∀ x, foldedSetIterable g.iter env x = pure x) (hclos : closureFor scope env = pure cl)
    (hkind : scope.kind = .function) (hnames : ∀ x ∈ scope.names, x.2 = .local → scope.names.lookup x.1 = some .local)
    (h : wpC M A first (fun x s₁ => wpC M A (pyIter x) (fun it s₂ => wpC M A newAcc (fun acc s₃ =>
      wpC M A (newFunctionEnv scope env.globals cl [] env.qual none .none (some env)) (fun cenv s₄ =>
        codeC M A (.compStart e 0 it acc { cenv with scope := relabel scope env }) (compPostC M A E use Q acc cenv.locals) s₄) E s₃) E s₂) E s₁) E s) :
    wpC M A (comprehension e scope env pos newAcc false first use) Q E s := by
  unfold comprehension
  rw [hclos, hcl]
  refine wpC_bind (wpC_then h (fun x s₁ h₁ => wpC_bind (wpC_standAt (wpC_bind (wpC_of_eq (hs x) (wpC_bind (wpC_holding (wpC_then h₁ (fun it s₂ h₂ =>
    wpC_standIf (wpC_bind (wpC_then h₂ (fun acc s₃ h₃ => wpC_bind (wpC_pure (wpC_bind (wpC_then h₃ (fun cenv s₄ h₄ => ?_))))))))))))))))
  dsimp only
  have hv : ∀ x ∈ (scope.names.filter fun x => (x.2 == .local || x.2 == .cell) && x.1 != (".0" : Str)).reverse, x.2 = .local →
      Env.kindOf { cenv with scope := relabel scope env } x.1 = some .local := fun x hx hl => lookup_relabel_local (hnames x (List.mem_filter.mp (List.mem_reverse.mp hx)).1 hl)
  have hv' : ∀ x ∈ (scope.names.filter fun x => (x.2 == .local || x.2 == .cell) && x.1 != (".0" : Str)).reverse.drop 1 ++ (scope.names.filter fun x => (x.2 == .local || x.2 == .cell) && x.1 != (".0" : Str)).reverse.take 1,
      x.2 = .local → Env.kindOf { cenv with scope := relabel scope env } x.1 = some .local := fun x hx hl => by
    rcases List.mem_append.mp hx with h1 | h1
    · exact hv x (List.mem_of_mem_drop h1) hl
    · exact hv x (List.mem_of_mem_take h1) hl
  refine wpC_holding (wpC_bind (wpC_attempt (wpC_holding (wpC_run rfl (codeC_mono h₄ fun r s' hr => ?_)))))
  cases r with
  | ok f =>
    cases use with
    | none =>
      obtain ⟨m, hn, hr⟩ := hr
      exact wpC_bind (wpC_holding (wpC_of (wpAny_comp_letGo (cenv := { cenv with scope := relabel scope env }) hkind _ s' m hv hn fun h' m' _ hs' => (wpC_pure (hr h' hs')))))
    | some u =>
      refine wpC_bind (wpC_rule (wpC_bind (wpC_holding (wpC_then hr (fun _ s'' hr' => ?_)))))
      obtain ⟨m, hn, hr'⟩ := hr'
      exact wpC_bind (wpC_of (wpAny_comp_letGo (cenv := { cenv with scope := relabel scope env }) hkind _ s'' m hv' hn fun h' m' _ hs' => wpC_pure (hr' h' hs')))
  | error x => cases use <;> exact hr.elim
end

section
variable {prog : Program} {w : World} {A : Around} {E : Value → Shared → Prop} {R : Result → Shared → Prop} {s : Shared}
theorem codeC_compStart {elt target iter ifs rest scope pos it acc env}
    (h0 : codeC (model prog w) A (.compLoop (.ListComp elt (⟨target, iter, ifs, 0⟩ :: rest) scope pos) 0 it acc env) R s)
    (h : wpC (model prog w) A (pyIter it) (fun it' s' => codeC (model prog w) A (.compLoop (.ListComp elt (⟨target, iter, ifs, 0⟩ :: rest) scope pos) 0 it' acc env) R s') (fun _ _ => False) s) :
    codeC (model prog w) A (.compStart (.ListComp elt (⟨target, iter, ifs, 0⟩ :: rest) scope pos) 0 it acc env) R s := by
  refine codeC_of_tree ?_
  show wpC _ _ ((compStart (.ListComp elt (⟨target, iter, ifs, 0⟩ :: rest) scope pos) 0 it acc env).onRaise (fun x => do noteFrame x env; standAt theWindowsPlace)) _ _ s
  refine wpC_onRaise (wpC_mono (E := fun _ _ => False) ?_ (fun _ _ x => x) fun _ _ x => x.elim)
  unfold compStart
  show wpC _ _ (ask >>= _) _ _ s
  refine wpC_bind (wpC_of (wpAny_askSetting ?_))
  dsimp only
  split
  · exact wpC_bind (wpC_pure (wpC_pure ⟨rfl, rfl, h0⟩))
  · refine wpC_bind (wpC_rule ?_)
    show wpC _ _ (standAt iter.pos >>= _) _ _ s
    exact wpC_bind (wpC_standAt (wpC_bind (wpC_then h fun it' s' h' => wpC_pure ⟨rfl, rfl, h'⟩)))
theorem codeC_compTurn {elt target iter : Expr} {scope : Scope} {pos : Pos} {it acc : Value} {env : Env}
    (turn : wpC (model prog w) A (pyNext it) (fun r s₁ => match r with
      | none => R (.ok .next) s₁
      | some v => wpC (model prog w) A (letOwnedTupleGo target it v) (fun _ s₁' => wpC (model prog w) A (assign target env v) (fun _ s₂ => wpC (model prog w) A (eval elt env) (fun x s₃ =>
          wpC (model prog w) A (call (.builtin "list.append") [acc, x]) (fun _ s₄ => codeC (model prog w) A (.compLoop (.ListComp elt [⟨target, iter, [], 0⟩] scope pos) 0 it acc env) R s₄)
          (fun _ _ => False) s₃) (fun _ _ => False) s₂) (fun _ _ => False) s₁') (fun _ _ => False) s₁) (fun _ _ => False) s) :
    codeC (model prog w) A (.compLoop (.ListComp elt [⟨target, iter, [], 0⟩] scope pos) 0 it acc env) R s := by
  refine codeC_of_tree ?_
  rw [Around.under_of_weight (by rfl)]
  show wpC _ _ ((compTurn (.ListComp elt [⟨target, iter, [], 0⟩] scope pos) 0 it acc env).onRaise (fun x => do noteFrame x env; theTreesLotGoes x)) _ _ s
  refine wpC_onRaise (wpC_mono (E := fun _ _ => False) ?_ (fun _ _ x => x) fun _ _ x => x.elim)
  rw [compTurn_list1]
  refine wpC_bind (wpC_standAt (wpC_bind (wpC_then turn fun r s₁ h₁ => ?_)))
  cases r with
  | none => exact wpC_pure h₁
  | some v =>
    refine wpC_bind (wpC_then h₁ fun _ s₁' h₁' => wpC_bind (wpC_then h₁' fun _ s₂ h₂ => wpC_bind (wpC_bind (wpC_then h₂ fun x s₃ h₃ => wpC_bind (wpC_then h₃ fun _ s₄ h₄ => wpC_pure ?_)))))
    exact wpC_pure ⟨rfl, rfl, h₄⟩
end

variable {C : Cx} {B : Base} {α : List Addr} {loc : Loc} {H : Hp} {s : Shared}

theorem append_ok {R₀ : Rel C B α loc H s} {k : Nat} {xs : List V} {a : Addr} {v : V} {v' : Value} {Q : Value → Shared → Prop} {E} (hk : H[k]? = some (.list xs)) (ha : α[k]? = some a) (hnf : C.nf ≤ k) (hlen : xs.length < 1000000) (hv : VR α v v')
    (hQ : ∀ s', Rel C B α loc (H.set k (.list (xs ++ [v]))) s' → Q .none s') : wpAny (model C.prog C.w) C.A (call (.builtin "list.append") [.ref a, v']) Q E s := by
  obtain ⟨a', us, n, e', hal, ho, rv⟩ := R₀.listAt hk (.ref _ _ ha)
  cases e'
  refine call_meets slot_list_append ⟨_, ho, rfl⟩ entry_list_append (args_list_append _ _) (AutoListH.list_append_list_val_0 a us.toArray n v' (by rw [List.size_toArray, rv.length, sizeLine_eq]; omega)) ⟨ho, ?_⟩
  refine hQ _ (R₀.upd (s' := { s with heap := s.heap.update a (Obj.mapSeq fun x => x.push v') }) (o := listObj (us ++ [v']).toArray (n + 1)) hal hnf (fun c o hc e => ((Heap.SameBut.update ..).2 c hc).trans e) rfl rfl ?_ (.list (rv.append (.cons hv .nil))))
  refine (Heap.get?_update_self _ ho (by simp [Obj.mapSeq, Obj.isFreed])).trans ?_
  simp [Obj.mapSeq, listObj]

/-- one turn's end: the element is worked out and laid at the list's end -/
noncomputable def pushF (elt : XF) (k : Nat) (loc : Loc) (H : Hp) : Option Hp := match elt loc H with
  | some (v, H1) => match H1[k]? with
    | some (.list xs) => if xs.length < 1000000 then some (H1.set k (.list (xs ++ [v]))) else none
    | _ => none
  | none => none
noncomputable def rngComp (elt : XF) (k : Nat) (tl : Loc) (a c : Int) : Nat → Nat → Hp → Option Hp
  | 0, _, H => some H
  | n + 1, i, H => match pushF elt k (some (.int (a + i * c)) :: tl) H with
    | some H1 => rngComp elt k tl a c n (i + 1) H1
    | none => none
noncomputable def seqComp (elt : XF) (k : Nat) (tl : Loc) (q : Nat) (b : Bool) : Nat → Nat → Hp → Option Hp
  | n, i, H => match itemsAt H q with
    | some (b', xs) => if b' = b then
      match xs[i]? with
      | none => some H
      | some v => match n with
        | 0 => none
        | n + 1 => match pushF elt k (some v :: tl) H with
          | some H1 => seqComp elt k tl q b n (i + 1) H1
          | none => none
      else none
    | none => none

theorem push_ok {f : XF} {elt : Expr} {a : Addr} {k : Nat} {H' : Hp} (hE : SimE C elt f) (hnf : C.nf ≤ k) (ha : α[k]? = some a) (R₀ : Rel C B α loc H s)
    (h : pushF f k loc H = some H') {P : Value → Shared → Prop} (hQ : ∀ α' s', α <+: α' → Rel C B α' loc H' s' → P .none s') :
    wpC (model C.prog C.w) C.A (eval elt C.env) (fun x s₃ => wpC (model C.prog C.w) C.A (call (.builtin "list.append") [.ref a, x]) P (fun _ _ => False) s₃) (fun _ _ => False) s := by
  unfold pushF at h
  split at h
  · rename_i v H1 e1
    split at h
    · rename_i xs hk
      split at h
      · rename_i hl
        cases h
        refine hE R₀ e1 fun α1 v1 s1 p1 R1 r1 => wpC_of (append_ok (R₀ := R1) hk ?_ hnf hl r1 fun s' R' => hQ _ _ p1 R')
        obtain ⟨rr, rfl⟩ := p1
        rw [List.getElem?_append_left (List.getElem?_eq_some_iff.mp ha).1]; exact ha
      · cases h
    · cases h
  · cases h

theorem pre_get {α α' : List Addr} (p : α <+: α') {k : Nat} {a : Addr} (ha : α[k]? = some a) : α'[k]? = some a := by
  obtain ⟨rr, rfl⟩ := p
  rw [List.getElem?_append_left (List.getElem?_eq_some_iff.mp ha).1]; exact ha

theorem rngComp_ok (K : COk C) {elt iter : Expr} {x : Str} {px pos : Pos} {scope : Scope} {f : XF} {I acc : Addr} {k : Nat} {a c : Int} {tl : Loc} (hn : SimN C x 0) (hE : SimE C elt f) (hnf : C.nf ≤ k) :
    ∀ (n i : Nat) {B α u H s H'} {Q : Shared → Prop}, Rel C B α (u :: tl) H s → α[k]? = some acc →
    IsRangeIter s.heap I (a + (i : Int) * c) (n : Int) c → Nobody C B α I → rngComp f k tl a c n i H = some H' →
    (∀ α' u' s', α <+: α' → Rel C B α' (u' :: tl) H' s' → Q s') → codeC (model C.prog C.w) C.A (.compLoop (.ListComp elt [⟨.Name x px, iter, [], 0⟩] scope pos) 0 (.ref I) (.ref acc) C.env) (flowPost fun _ s' => Q s') s
  | 0, i, B, α, u, H, s, H', Q, R, hacc, hit, N, h, hQ => by
    cases h
    exact codeC_compTurn (wpC_of (wpAny_pyNext_range_end K.hh hit (by simp) fun h₁ hx => hQ _ _ _ (pre_refl _) (R.extX (fun b o hne e => hx b o hne e) N.a N.o N.b N.w rfl R.gens)))
  | n + 1, i, B, α, u, H, s, H', Q, R, hacc, hit, N, h, hQ => by
    unfold rngComp at h
    split at h
    · rename_i H1 e1
      refine codeC_compTurn (wpC_of (wpAny_pyNext_range_item hit (by omega) fun h₁ hit₁ hs₁ => ?_))
      have R1 : Rel C B α (u :: tl) H { s with heap := h₁, toks := s.toks + 1 } := R.extX (fun b o hne e => (hs₁.2 b hne).trans e) N.a N.o N.b N.w rfl R.gens
      refine wpC_of (letOwned_plain hit₁ rfl rfl (by decide) ?_)
      refine wpC_of (simA_name hn R1.rebase (.int _ _) rfl fun s2 R2 => ?_)
      have hI : restOf C α { s with heap := h₁, toks := s.toks + 1 } I = some _ := restOf_some.mpr ⟨hit₁, N.a, N.o⟩
      refine push_ok hE hnf hacc R2 e1 fun α2 s3 p2 R3 => ?_
      have k3 := R3.keep I _ hI
      have R3B := Rel.back R1.toRest R3
      have e4 : a + (i : Int) * c + c = a + ((i + 1 : Nat) : Int) * c := by push_cast; rw [Int.add_mul, Int.one_mul, Int.add_assoc]
      have e5 : ((n + 1 : Nat) : Int) - 1 = (n : Int) := by push_cast; omega
      refine rngComp_ok K hn hE hnf n (i + 1) R3B (pre_get p2 hacc) ?_ ⟨k3.2.1, k3.2.2, N.b, N.w⟩ h fun α' r' s' p' R' => hQ _ _ _ (p2.trans p') R'
      rw [← e4, ← e5]; exact k3.1
    · cases h

theorem seqComp_ok (K : COk C) {elt iter : Expr} {x : Str} {px pos : Pos} {scope : Scope} {f : XF} {I acc l : Addr} {k q : Nat} {b : Bool} {tl : Loc} (hn : SimN C x 0) (hE : SimE C elt f) (hnf : C.nf ≤ k) :
    ∀ (n i : Nat) {B α u H s H'} {Q : Shared → Prop}, Rel C B α (u :: tl) H s → α[k]? = some acc → α[q]? = some l →
    IsSeqIter b s.heap I l i → Nobody C B α I → seqComp f k tl q b n i H = some H' →
    (∀ α' u' s', α <+: α' → Rel C B α' (u' :: tl) H' s' → Q s') → codeC (model C.prog C.w) C.A (.compLoop (.ListComp elt [⟨.Name x px, iter, [], 0⟩] scope pos) 0 (.ref I) (.ref acc) C.env) (flowPost fun _ s' => Q s') s := by
  intro n
  induction n with
  | zero =>
    intro i B α u H s H' Q R hacc hl hit N h hQ
    unfold seqComp at h
    split at h
    · rename_i b' xs e0
      split at h
      · rename_i eb
        subst eb
        split at h
        · rename_i ex
          cases h
          obtain ⟨vs, rv, hL⟩ := itemsAt_real R e0 hl
          refine codeC_compTurn (wpC_of (seq_next_end b' K.hh hit hL ?_ fun h₁ hx => hQ _ _ _ (pre_refl _) (R.extX (fun b o hne e => hx b o hne e) N.a N.o N.b N.w rfl R.gens)))
          rw [List.getElem?_eq_none_iff] at ex ⊢
          rw [rv.length]; exact ex
        · cases h
      · cases h
    · cases h
  | succ n ih =>
    intro i B α u H s H' Q R hacc hl hit N h hQ
    unfold seqComp at h
    split at h
    · rename_i b' xs e0
      split at h
      · rename_i eb
        subst eb
        obtain ⟨vs, rv, hL⟩ := itemsAt_real R e0 hl
        split at h
        · rename_i ex
          cases h
          refine codeC_compTurn (wpC_of (seq_next_end b' K.hh hit hL ?_ fun h₁ hx => hQ _ _ _ (pre_refl _) (R.extX (fun b o hne e => hx b o hne e) N.a N.o N.b N.w rfl R.gens)))
          rw [List.getElem?_eq_none_iff] at ex ⊢
          rw [rv.length]; exact ex
        · rename_i v ex
          obtain ⟨v', hv', rvv⟩ := rv.get ex
          dsimp only at h
          split at h
          · rename_i H1 e1
            refine codeC_compTurn (wpC_of (seq_next_item b' hit hL hv' fun h₁ hit₁ hs₁ => ?_))
            have R1 : Rel C B α (u :: tl) H { s with heap := h₁ } := R.extX (fun b o hne e => (hs₁.2 b hne).trans e) N.a N.o N.b N.w rfl R.gens
            refine wpC_of (seq_owned b' hit₁ ?_)
            refine wpC_of (simA_name hn R1.rebase rvv rfl fun s2 R2 => ?_)
            obtain ⟨oI, hoI, hoI'⟩ := seqIter_obj hit₁
            have hI : restOf C α { s with heap := h₁ } I = some oI := restOf_some.mpr ⟨hoI, N.a, N.o⟩
            refine push_ok hE hnf hacc R2 e1 fun α2 s3 p2 R3 => ?_
            have k3 := R3.keep I _ hI
            have R3B := Rel.back R1.toRest R3
            exact ih (i + 1) R3B (pre_get p2 hacc) (pre_get p2 hl) (hoI' _ k3.1) ⟨k3.2.1, k3.2.2, N.b, N.w⟩ h fun α' r' s' p' R' => hQ _ _ _ (p2.trans p') R'
          · cases h
      · cases h
    · cases h
end Mine

namespace Mine
open PySem PySem.W PyProof.Rows PySem.Calls

variable {C : Cx} {B : Base} {α : List Addr} {loc : Loc} {H : Hp} {s : Shared}

/-- the context of a comprehension's frame -/
noncomputable def compCx (C : Cx) (scope : Scope) (cl : List (Str × Addr)) (names : List Str) (L : Addr) : Cx := { C with env := compEnvC scope cl L C.env, names := names }

/-- what a comprehension's scope must say -/
structure CompOk (C : Cx) (scope : Scope) (cl : List (Str × Addr)) (x : Str) (fn : List Str) (fidx : List Nat) : Prop where
  clos : closureFor scope C.env = pure cl
  kind : scope.kind = .function
  nocell : ∀ y ∈ scope.names, y.2 ≠ .cell
  names : ∀ y ∈ scope.names, y.2 = .local → scope.names.lookup y.1 = some .local
  hx : scope.names.lookup x = some .local
  xcl : cl.lookup x = none
  nd : (x :: fn).Nodup
  sub : ∀ y c, cl.lookup y = some c → C.env.cells.lookup y = some c ∧ ∃ (j i : Nat), fn[j]? = some y ∧ fidx[j]? = some i ∧ C.names[i]? = some y
  mem : ∀ y c, (y, c) ∈ cl → C.env.cells.lookup y = some c
  back : ∀ (j : Nat) y i, fn[j]? = some y → fidx[j]? = some i → C.names[i]? = some y
  ap : cl.Pairwise fun x y => x.2 ≠ y.2
  nl : ∀ y ∈ fn, ∀ L, (compEnvC scope cl L C.env).kindOf y ≠ some .local

theorem CompOk.ok {scope cl x fn fidx} (K : COk C) (P : CompOk C scope cl x fn fidx) {L : Addr} (hL : C.W.objs.size ≤ L) (hc : ∀ y c, C.env.cells.lookup y = some c → c ≠ L) : COk (compCx C scope cl (x :: fn) L) where
  hk := P.kind
  nd := P.nd
  hh := K.hh
  apart := P.ap
  lne := fun n c hm => ⟨fun e => hc n c (P.mem n c hm) e.symm, (K.lne n c (mem_of_lookup (P.mem n c hm))).2⟩
  aboveW := hL

noncomputable def tailOf (fidx : List Nat) (loc : Loc) : Loc := fidx.map fun i => (loc[i]?).join
theorem tailOf_get {fidx : List Nat} {j i : Nat} {v : V} (hj : fidx[j]? = some i) : (tailOf fidx loc)[j]? = some (some v) ↔ loc[i]? = some (some v) := by
  unfold tailOf
  rw [List.getElem?_map, hj, Option.map_some]
  constructor
  · intro h
    cases e : loc[i]? with
    | none => rw [e] at h; cases h
    | some o => rw [e] at h; cases o with
      | none => cases h
      | some u => cases h; rfl
  · intro h; rw [h]; rfl

theorem Rel.inner {scope cl x fn fidx} (P : CompOk C scope cl x fn fidx) (R : Rel C B α loc H s) {L : Addr} (N : Nobody C B α L) (hL : s.heap.Ns L (fun _ => none)) :
    Rel (compCx C scope cl (x :: fn) L) (restOf (compCx C scope cl (x :: fn) L) α s) α (none :: tailOf fidx loc) H s where
  len := R.len
  nd := R.nd
  obj := R.obj
  keep := fun b o e => restOf_some.mp e
  keepW := R.keepW
  lo := R.lo
  nf := R.nf
  fz := R.fz
  offL := N.a
  offC := fun y c e => R.offC y c (P.sub y c e).1
  ns := ⟨_, hL, fun i y v hy hv hk => by
    cases i with
    | zero => cases hv
    | succ j => exact (P.nl y (List.mem_of_getElem? (i := j) (by simpa [compCx] using hy)) L hk).elim⟩
  cl := fun y c e => by
    obtain ⟨e1, j, i, h1, h2, h3⟩ := P.sub y c e
    obtain ⟨ov, q1, q2⟩ := R.cl y c e1
    refine ⟨ov, q1, fun i' v hy hv => ?_⟩
    cases i' with
    | zero => cases hv
    | succ j' =>
      have hy' : fn[j']? = some y := by simpa [compCx] using hy
      have hj : j' = j := names_inj (List.nodup_cons.mp P.nd).2 hy' h1
      subst hj
      have hv' : (tailOf fidx loc)[j']? = some (some v) := by simpa using hv
      exact q2 i v h3 ((tailOf_get h2).mp hv')
  os := R.os
  gens := R.gens

theorem Rel.outer {scope cl x fn fidx} (K : COk C) (P : CompOk C scope cl x fn fidx) (R : Rel C B α loc H s) {L I : Addr} (N : Nobody C B α L) (NI : Nobody C B α I) {B' : Base} {α' : List Addr} {u : Option V} {H' : Hp} {s' : Shared} (p : α <+: α')
    (hB : ∀ b o, b ≠ I → restOf (compCx C scope cl (x :: fn) L) α s b = some o → B' b = some o)
    (R' : Rel (compCx C scope cl (x :: fn) L) B' α' (u :: tailOf fidx loc) H' s') : Rel C B α' loc H' s' := by
  have hown : ∀ b, b ≠ L → (∀ y, C.env.cells.lookup y ≠ some b) → ¬ Own (compCx C scope cl (x :: fn) L) b := by
    rintro b h1 h2 (h | ⟨y, h⟩)
    · exact h1 h
    · exact h2 y (P.sub y b h).1
  have hkeep : ∀ b o, s.heap.get? b = some o → b ∉ α → b ≠ L → b ≠ I → (∀ y, C.env.cells.lookup y ≠ some b) → s'.heap.get? b = some o ∧ b ∉ α' := fun b o e h1 h2 hI h3 => by
    have := R'.keep b o (hB b o hI (restOf_some.mpr ⟨e, h1, hown b h2 h3⟩))
    exact ⟨this.1, this.2.1⟩
  have hcl : ∀ y c, C.env.cells.lookup y = some c → c ∉ α' ∧ ∃ ov, s'.heap.IsCell c ov ∧ ∀ (i : Nat) v, C.names[i]? = some y → loc[i]? = some (some v) → ∃ v', ov = some v' ∧ VR α' v v' := fun y c e => by
    have hcL : c ≠ L := fun q => N.o (.inr ⟨y, q ▸ e⟩)
    cases ec : cl.lookup y with
    | some c' =>
      obtain ⟨e1, j, i, h1, h2, h3⟩ := P.sub y c' ec
      rw [e] at e1; cases e1
      obtain ⟨ov, q1, q2⟩ := R'.cl y c ec
      refine ⟨R'.offC y c ec, ov, q1, fun i' v hi hv => ?_⟩
      have : i' = i := names_inj K.nd hi h3
      subst this
      exact q2 (j + 1) v (by simpa [compCx] using h1) (by simpa using (tailOf_get h2).mpr hv)
    | none =>
      obtain ⟨ov, ⟨oc, q1, q1'⟩, q2⟩ := R.cl y c e
      have hno : ¬ Own (compCx C scope cl (x :: fn) L) c := by
        rintro (h | ⟨z, h⟩)
        · exact hcL h
        · have hz := (P.sub z c h).1
          have : z = y := name_of_addr K.apart (mem_of_lookup hz) (mem_of_lookup e)
          subst this
          have h' : cl.lookup z = some c := h
          rw [ec] at h'; cases h'
      have k := R'.keep c oc (hB c oc (fun q => NI.o (.inr ⟨y, q ▸ e⟩)) (restOf_some.mpr ⟨q1, R.offC y c e, hno⟩))
      exact ⟨k.2.1, ov, ⟨oc, k.1, q1'⟩, fun i v hi hv => let ⟨v', g1, g2⟩ := q2 i v hi hv; ⟨v', g1, g2.mono p⟩⟩
  have hlc : ∀ y, C.env.cells.lookup y ≠ some C.env.locals := fun y e => (K.lne y _ (mem_of_lookup e)).1 rfl
  have hLI : C.env.locals ≠ I := fun q => NI.o (.inl q.symm)
  have hLL : C.env.locals ≠ L := fun q => N.o (.inl q.symm)
  obtain ⟨m, hn, hm⟩ := R.ns
  obtain ⟨oL, hoL⟩ : ∃ o, s.heap.get? C.env.locals = some o := by obtain ⟨o, _, _, h, _⟩ := hn; exact ⟨o, h⟩
  exact {
    len := R'.len, nd := R'.nd, obj := R'.obj
    keep := fun b o e => by
      obtain ⟨e1, e2, e3⟩ := R.keep b o e
      obtain ⟨q1, q2⟩ := hkeep b o e1 e2 (fun q => by rw [q, N.b] at e; cases e) (fun q => by rw [q, NI.b] at e; cases e) (fun y q => e3 (.inr ⟨y, q⟩))
      exact ⟨q1, q2, e3⟩
    keepW := R'.keepW, lo := R'.lo, nf := R'.nf, fz := R'.fz
    offL := (hkeep _ oL hoL R.offL hLL hLI hlc).2
    offC := fun y c e => (hcl y c e).1
    ns := ⟨m, hn.at' fun o e => (hkeep _ o e R.offL hLL hLI hlc).1, fun i y v e1 e2 e3 => let ⟨v', g1, g2⟩ := hm i y v e1 e2 e3; ⟨v', g1, g2.mono p⟩⟩
    cl := fun y c e => (hcl y c e).2
    os := R'.os, gens := R'.gens }

noncomputable def compF (fidx : List Nat) (it elt : XF) : XF := fun loc H => match it loc H with
  | some (.ref k, H1) => match H1[k]? with
    | some (.rng a b c) => if Builtin.Range.small a b c then
        match rngComp elt H1.length (tailOf fidx loc) a c (Builtin.Range.rangeSize a b c).toNat 0 (H1 ++ [.list []]) with
        | some H2 => some (.ref H1.length, H2)
        | none => none
      else none
    | some (.list xs) => match seqComp elt H1.length (tailOf fidx loc) k true xs.length 0 (H1 ++ [.list []]) with
        | some H2 => some (.ref H1.length, H2)
        | none => none
    | some (.tup xs) => match seqComp elt H1.length (tailOf fidx loc) k false xs.length 0 (H1 ++ [.list []]) with
        | some H2 => some (.ref H1.length, H2)
        | none => none
    | _ => none
  | _ => none

/-- from the iterator on: a new list, the comprehension's frame, its loop -/
theorem comp_block (K : COk C) {elt iter : Expr} {x : Str} {px pos : Pos} {scope : Scope} {cl fn fidx} {f : XF} {I : Addr} (P : CompOk C scope cl x fn fidx)
    (hE : ∀ L, COk (compCx C scope cl (x :: fn) L) → SimE (compCx C scope cl (x :: fn) L) elt f) {H2 : Hp} {Q : Value → Addr → Shared → Prop} {E}
    (R : Rel C B α loc H s) (N : Nobody C B α I) (hI : ∃ o, s.heap.get? I = some o) (hself : ∀ s' : Shared, s'.heap.get? I = s.heap.get? I → ∀ (A : Around) (Q : Value → Shared → Prop) E, Q (.ref I) s' → wpAny (model C.prog C.w) A (pyIter (.ref I)) Q E s')
    (loop : ∀ L (B' : Base) α' s' acc (Q' : Shared → Prop), COk (compCx C scope cl (x :: fn) L) → SimN (compCx C scope cl (x :: fn) L) x 0 → SimE (compCx C scope cl (x :: fn) L) elt f → C.nf ≤ H.length → α <+: α' → α'[H.length]? = some acc → s'.heap.get? I = s.heap.get? I →
      Nobody (compCx C scope cl (x :: fn) L) B' α' I →
      Rel (compCx C scope cl (x :: fn) L) B' α' (none :: tailOf fidx loc) (H ++ [.list []]) s' →
      (∀ α'' u' s'', α' <+: α'' → Rel (compCx C scope cl (x :: fn) L) B' α'' (u' :: tailOf fidx loc) H2 s'' → Q' s'') →
      codeC (model C.prog C.w) C.A (.compLoop (.ListComp elt [⟨.Name x px, iter, [], 0⟩] scope pos) 0 (.ref I) (.ref acc) (compEnvC scope cl L C.env)) (flowPost fun _ s'' => Q' s'') s')
    (hQ : ∀ α' s' acc L, α <+: α' → Rel C B α' loc H2 s' → VR α' (.ref H.length) acc → L ∉ α' → ¬ Own C L → B L = none → C.W.get? L = none → (∃ m, s'.heap.Ns L m) → Q acc L s') :
    wpC (model C.prog C.w) C.A (newList []) (fun acc s₃ => wpC (model C.prog C.w) C.A (newFunctionEnv scope C.env.globals cl [] C.env.qual none .none (some C.env)) (fun cenv s₄ =>
      codeC (model C.prog C.w) C.A (.compStart (.ListComp elt [⟨.Name x px, iter, [], 0⟩] scope pos) 0 (.ref I) acc { cenv with scope := relabel scope C.env }) (fun r s' => match r with | .ok _ => Q acc cenv.locals s' | .error _ => False) s₄) E s₃) E s := by
  refine wpC_of (wpAny_newObj_type (T := "list") (data := .seq ([] : List Value).toArray) ?_)
  obtain ⟨p1, R1, ra⟩ := R.made (tk := s.toks) (o := { cls := .type "list", dict := none, data := .seq ([] : List Value).toArray, slots := #[] }) (mo := .list []) K (.list (vs := []) .nil)
  have N1 := R1.nobody
  refine wpC_of (wpAny_newFunctionEnv P.nocell (by intro y hy; simp at hy) (fun h₁ hns₁ hsb₁ => ?_) P.kind)
  dsimp only at hns₁ hsb₁ N1 ⊢
  generalize hL0 : (s.heap.push { cls := .type "list", dict := none, data := .seq ([] : List Value).toArray, slots := #[] }) = H2' at *
  have hns₁' : h₁.Ns H2'.objs.size (fun _ => none) := hns₁
  have hkk : ∀ b o, b ≠ H2'.objs.size → H2'.get? b = some o → h₁.get? b = some o := fun b o hb e => hsb₁.extBut b o hb (Heap.get?_push_of_some _ e)
  have R2 := R1.extX (s' := { s with heap := h₁, toks := s.toks + ([] : List (Str × Value)).length }) hkk N1.a N1.o N1.b N1.w rfl R.gens
  have hLW : C.W.objs.size ≤ H2'.objs.size := by
    obtain ⟨m, ⟨oL, _, _, hL, _⟩, _⟩ := R1.ns
    exact Nat.le_trans K.aboveW (Nat.le_of_lt (Heap.lt_size hL))
  have K' := P.ok (L := H2'.objs.size) K hLW (fun y c hm => by
    rintro rfl
    obtain ⟨ov, ⟨oc, hc, _⟩, _⟩ := R1.cl y _ hm
    exact Nat.lt_irrefl _ (Heap.lt_size hc))
  have RI := R2.inner P N1 hns₁'
  obtain ⟨oI, hoI⟩ := hI
  have hIlt := Heap.lt_size hoI
  have hI2 : H2'.get? I = some oI := by rw [← hL0]; exact Heap.get?_push_of_some _ hoI
  have hIL : I ≠ H2'.objs.size := Nat.ne_of_lt (Heap.lt_size hI2)
  have hI3 : h₁.get? I = s.heap.get? I := (hkk _ _ hIL hI2).trans hoI.symm
  have hIa : I ∉ α ++ [s.heap.objs.size] := fun hm => by
    rcases List.mem_append.mp hm with h | h
    · exact N.a h
    · simp at h; exact Nat.lt_irrefl _ (h ▸ hIlt)
  have hIo : ¬ Own (compCx C scope cl (x :: fn) H2'.objs.size) I := by
    rintro (h | ⟨y, h⟩)
    · exact hIL h
    · exact N.o (.inr ⟨y, (P.sub y I h).1⟩)
  obtain ⟨a, ha, hacc⟩ := ra.ref_inv
  have hlp := loop H2'.objs.size (fun b => if b = I then none else restOf (compCx C scope cl (x :: fn) H2'.objs.size) (α ++ [s.heap.objs.size]) { s with heap := h₁, toks := s.toks + ([] : List (Str × Value)).length } b)
    (α ++ [s.heap.objs.size]) { s with heap := h₁, toks := s.toks + ([] : List (Str × Value)).length } a
    (fun s'' => Q (.ref a) H2'.objs.size s'') K' (simN_L K' .here (lookup_relabel_local P.hx) P.xcl) (hE _ K') (R.len ▸ R.nf) p1 hacc hI3 ⟨hIa, hIo, by simp, N.w⟩
    (Rel.back (fun b o e => by
      split at e
      · cases e
      · exact e) RI)
    (fun α'' u' s'' p R'' => by
      have NI2 : Nobody C B (α ++ [s.heap.objs.size]) I := ⟨hIa, N.o, N.b, N.w⟩
      have R3 : Rel C B α'' loc H2 s'' := R2.outer K P N1 NI2 p (fun b o hb e => by rw [if_neg hb]; exact e) R''
      obtain ⟨m, hm, _⟩ := R''.ns
      have hra := ra.mono p
      rw [ha] at hra
      exact hQ α'' s'' (.ref a) H2'.objs.size (p1.trans p) R3 hra R''.offL N1.o N1.b N1.w ⟨m, hm⟩)
  rw [ha]
  have hlp' := codeC_mono hlp (R' := fun r s' => match r with | .ok _ => Q (.ref a) (newEnv scope H2'.objs.size C.env.globals cl C.env.qual none .none (some C.env) C.env.builtins).locals s' | .error _ => False) fun r s' h => by
    cases r with
    | ok f => exact h
    | error e => exact h
  exact codeC_compStart hlp' (wpC_of (hself _ hI3 _ _ _ hlp'))

theorem comp_go (K : COk C) {elt iter : Expr} {x : Str} {px pos : Pos} {scope : Scope} {cl fn fidx} {f : XF} {it : XF} (P : CompOk C scope cl x fn fidx) (h1 : SimE C iter it)
    (hE : ∀ L, COk (compCx C scope cl (x :: fn) L) → SimE (compCx C scope cl (x :: fn) L) elt f) {v : V} {H2 : Hp} {Q : Value → Shared → Prop} {E} {use : Option (Value → Sem Unit)} {pos' : Pos}
    (hs : ∀ x, foldedSetIterable iter C.env x = pure x)
    (R : Rel C B α loc H s) (h : compF fidx it f loc H = some (v, H2))
    (hQ : ∀ α' s' acc L, α <+: α' → Rel C B α' loc H2 s' → VR α' v acc → L ∉ α' → ¬ Own C L → B L = none → C.W.get? L = none → (∃ m, s'.heap.Ns L m) → compPostC (model C.prog C.w) C.A E use Q acc L (.ok .next) s') :
    wpC (model C.prog C.w) C.A (comprehension (.ListComp elt [⟨.Name x px, iter, [], 0⟩] scope pos) scope C.env pos' (newList []) false (eval iter C.env) use) Q E s := by
  refine C_comprehension rfl hs P.clos P.kind P.names ?_
  unfold compF at h
  split at h
  · rename_i k H1 e1
    refine h1 R e1 fun α1 va s1 p1 R1 ra => ?_
    have N := R1.nobody
    have fin : ∀ {s2 : Shared} {I : Addr}, wpC (model C.prog C.w) C.A (newList []) (fun acc s₃ => wpC (model C.prog C.w) C.A (newFunctionEnv scope C.env.globals cl [] C.env.qual none .none (some C.env)) (fun cenv s₄ =>
        codeC (model C.prog C.w) C.A (.compStart (.ListComp elt [⟨.Name x px, iter, [], 0⟩] scope pos) 0 (.ref I) acc { cenv with scope := relabel scope C.env }) (fun r s' => match r with | .ok _ => compPostC (model C.prog C.w) C.A E use Q acc cenv.locals (.ok .next) s' | .error _ => False) s₄) E s₃) E s2 →
      wpC (model C.prog C.w) C.A (newList []) (fun acc s₃ => wpC (model C.prog C.w) C.A (newFunctionEnv scope C.env.globals cl [] C.env.qual none .none (some C.env)) (fun cenv s₄ =>
        codeC (model C.prog C.w) C.A (.compStart (.ListComp elt [⟨.Name x px, iter, [], 0⟩] scope pos) 0 (.ref I) acc { cenv with scope := relabel scope C.env }) (compPostC (model C.prog C.w) C.A E use Q acc cenv.locals) s₄) E s₃) E s2 := fun {s2 I} q =>
      wpC_then q fun acc s₃ q => wpC_then q fun cenv s₄ q => codeC_mono q fun r s' q => by
        cases r with
        | ok f => cases use <;> exact q
        | error e => exact q.elim
    split at h
    · rename_i a b c hk
      split at h
      · rename_i hsm
        split at h
        · rename_i H3 e3
          cases h
          obtain ⟨ad, t0, u0, w0, rfl, hal, hr⟩ := R1.rngAt hk ra
          refine wpC_of (wpAny_pyIter_range hr hsm ?_)
          have R2 := R1.ext (s' := { s1 with heap := s1.heap.push { cls := .type "range_iterator", data := .fields #[rawInt a, rawInt (Builtin.Range.rangeSize a b c), rawInt c] } }) (fun b o e => Heap.get?_push_of_some _ e) rfl rfl
          have hit : IsRangeIter (s1.heap.push { cls := .type "range_iterator", data := .fields #[rawInt a, rawInt (Builtin.Range.rangeSize a b c), rawInt c] }) s1.heap.objs.size a (Builtin.Range.rangeSize a b c) c := Heap.get?_push_size _ rfl
          refine fin (comp_block K (Q := fun acc L s' => compPostC (model C.prog C.w) C.A E use Q acc L (.ok .next) s') P hE R2 N ⟨_, hit⟩ (fun s' e A Q E q => wpAny_pyIter_rangeiter (it := s1.heap.objs.size) (x := a) (left := Builtin.Range.rangeSize a b c) (step := c) (e.trans hit) q) ?_ fun α' s' acc L p R' ra' h1 h2 h3 h4 h5 => hQ α' s' acc L (p1.trans p) R' ra' h1 h2 h3 h4 h5)
          intro L B' α' s' acc Q' K' hn hf hnf p hacc hIe NI R' hq
          refine rngComp_ok K' hn hf hnf _ 0 R' hacc ?_ NI e3 hq
          rw [Int.toNat_of_nonneg (rangeSize_nonneg a b c)]
          simpa using hIe.trans hit
        · cases h
      · cases h
    · rename_i xs hk
      split at h
      · rename_i H3 e3
        cases h
        obtain ⟨l, vs, n, rfl, hal, ho, rv⟩ := R1.listAt hk ra
        refine wpC_of (wpAny_pyIter_list (items := vs.toArray) ⟨_, ho, rfl, n, rfl⟩ ?_)
        have R2 := R1.ext (s' := { s1 with heap := s1.heap.push { cls := .type "list_iterator", data := .fields #[.ref l, .int 0 0] } }) (fun b o e => Heap.get?_push_of_some _ e) rfl rfl
        have hg : (s1.heap.push { cls := .type "list_iterator", data := .fields #[.ref l, .int 0 0] }).get? s1.heap.objs.size = some { cls := .type "list_iterator", data := .fields #[.ref l, .int 0 0] } := Heap.get?_push_size _ rfl
        refine fin (comp_block K (Q := fun acc L s' => compPostC (model C.prog C.w) C.A E use Q acc L (.ok .next) s') P hE R2 N ⟨_, hg⟩ (fun s' e A Q E q => wpAny_pyIter_listiter (it := s1.heap.objs.size) (l := l) (i := 0) ⟨_, e.trans hg, rfl, rfl⟩ q) ?_ fun α' s' acc L p R' ra' h1 h2 h3 h4 h5 => hQ α' s' acc L (p1.trans p) R' ra' h1 h2 h3 h4 h5)
        intro L B' α' s' acc Q' K' hn hf hnf p hacc hIe NI R' hq
        exact seqComp_ok (b := true) (l := l) K' hn hf hnf _ 0 R' hacc (pre_get p hal) ⟨_, hIe.trans hg, rfl, rfl⟩ NI e3 hq
      · cases h
    · rename_i xs hk
      split at h
      · rename_i H3 e3
        cases h
        obtain ⟨l, vs, n, rfl, hal, ho, rv⟩ := R1.tupAt hk ra
        refine wpC_of (wpAny_pyIter_tuple (items := vs.toArray) ⟨_, ho, rfl, n, rfl⟩ ?_)
        have R2 := R1.ext (s' := { s1 with heap := s1.heap.push { cls := .type "tuple_iterator", data := .fields #[.ref l, .int 0 0] } }) (fun b o e => Heap.get?_push_of_some _ e) rfl rfl
        have hg : (s1.heap.push { cls := .type "tuple_iterator", data := .fields #[.ref l, .int 0 0] }).get? s1.heap.objs.size = some { cls := .type "tuple_iterator", data := .fields #[.ref l, .int 0 0] } := Heap.get?_push_size _ rfl
        refine fin (comp_block K (Q := fun acc L s' => compPostC (model C.prog C.w) C.A E use Q acc L (.ok .next) s') P hE R2 N ⟨_, hg⟩ (fun s' e A Q E q => wpAny_pyIter_tupleiter (it := s1.heap.objs.size) (t := l) (i := 0) ⟨_, e.trans hg, rfl, rfl⟩ q) ?_ fun α' s' acc L p R' ra' h1 h2 h3 h4 h5 => hQ α' s' acc L (p1.trans p) R' ra' h1 h2 h3 h4 h5)
        intro L B' α' s' acc Q' K' hn hf hnf p hacc hIe NI R' hq
        exact seqComp_ok (b := false) (l := l) K' hn hf hnf _ 0 R' hacc (pre_get p hal) ⟨_, hIe.trans hg, rfl, rfl⟩ NI e3 hq
      · cases h
    · cases h
  · cases h

theorem Rel.letGo (R : Rel C B α loc H s) {L : Addr} (h1 : L ∉ α) (h2 : ¬ Own C L) (h3 : B L = none) (h4 : C.W.get? L = none) {h' : Heap} (hs : Heap.SameBut L s.heap h') : Rel C B α loc H { s with heap := h' } :=
  R.extX (fun b o hb e => (hs.2 b hb).trans e) h1 h2 h3 h4 rfl R.gens

theorem sim_comp (K : COk C) {elt iter : Expr} {x : Str} {px pos : Pos} {scope : Scope} {cl fn fidx} {f : XF} {it : XF} (P : CompOk C scope cl x fn fidx) (h1 : SimE C iter it)
    (hE : ∀ L, COk (compCx C scope cl (x :: fn) L) → SimE (compCx C scope cl (x :: fn) L) elt f)
    (hs : ∀ x, foldedSetIterable iter C.env x = pure x) : SimE C (.ListComp elt [⟨.Name x px, iter, [], 0⟩] scope pos) (compF fidx it f) := by
  intro B α loc H s v H' Q E R h hQ
  rw [eval_ListComp]
  refine comp_go (use := none) K P h1 hE hs R h fun α' s' acc L p R' ra g1 g2 g3 g4 g5 => ?_
  obtain ⟨m, hm⟩ := g5
  exact ⟨m, hm, fun h' hs' => hQ _ _ _ p (R'.letGo g1 g2 g3 g4 hs') ra⟩

theorem simS_comp (K : COk C) {elt iter : Expr} {x y : Str} {px py pos spos : Pos} {scope : Scope} {cl fn fidx} {f : XF} {it : XF} {k : Nat} (hn : SimN C y k) (P : CompOk C scope cl x fn fidx) (h1 : SimE C iter it)
    (hE : ∀ L, COk (compCx C scope cl (x :: fn) L) → SimE (compCx C scope cl (x :: fn) L) elt f)
    (hs : ∀ x, foldedSetIterable iter C.env x = pure x)
    (hsw : swapsWith (.ListComp elt [⟨.Name x px, iter, [], 0⟩] scope pos) (some (.Name y py)) spos.line C.env = pure true) :
    SimS C (.Assign [.Name y py] (.ListComp elt [⟨.Name x px, iter, [], 0⟩] scope pos) spos) (assignF k (compF fidx it f)) := by
  intro B α loc H s r loc' H' Q E R h hQ
  unfold assignF at h
  split at h
  · rename_i v H1 e1
    cases h
    rw [exec_Assign_Name_used _ _ _ _ hsw]
    refine wpC_bind (wpC_standAt (wpC_bind ?_))
    show wpC _ C.A (do let _ ← comprehension (.ListComp elt [⟨.Name x px, iter, [], 0⟩] scope pos) scope C.env _ (newList []) false (eval iter C.env) (some (assign (.Name y py) C.env))) _ _ s
    refine wpC_bind (wpC_then (Q := fun _ s' => Q .next s') (comp_go (use := some (assign (.Name y py) C.env)) K P h1 hE hs R e1 fun α' s' acc L p R' ra g1 g2 g3 g4 g5 => ?_) fun _ s' hq => wpC_pure (wpC_pure hq))
    obtain ⟨m, hm⟩ := g5
    have hm0 := hm
    obtain ⟨oL, es, ep, hoL, hrest⟩ := hm
    refine wpC_of (simA_name hn R'.rebase ra rfl fun s2 R2 => ?_)
    have hk := R2.keep L oL (restOf_some.mpr ⟨hoL, g1, g2⟩)
    refine ⟨m, hm0.at' (fun o e => ?_), fun h' hs' => hQ _ _ _ p (Rel.letGo (Rel.back R'.toRest R2) g1 g2 g3 g4 hs') .next⟩
    rw [hoL] at e; cases e; exact hk.1
  · cases h
end Mine

namespace Mine
open PySem PySem.W PyProof.Rows PySem.Calls

section
variable {M : Model} {A : Around} {s : Shared} {c : Code} {Φ : End → Shared → Prop}
/-- a generator's run, up to its end or its next halt; no frame of calls lies in it -/
noncomputable def SegC (M : Model) (A : Around) (c : Code) (t : Sem Fin) (s : Shared) (Φ : End → Shared → Prop) : Prop :=
  ∀ Γ p, Γ.code = c → Γ.Woken A → Clean Γ → ∃ e s', Runs M Γ p t [] s e s' ∧ Φ e s'
theorem segC_wrap {α : Type} {m : Sem α} {K : α → Sem Fin} {H : Value → Sem Fin} {gd lv}
    (h : wpC M (A.over c []) m (fun a s' => SegC M A c (K a) s' Φ) (fun _ _ => False) s) : SegC M A c (m.wrap K H gd lv) s Φ := by
  rintro Γ p rfl hΓ hl
  exact runs_wrap_of_wp K H gd lv m (h (Γ.over []) p (hΓ.over []) ⟨hl.here, hl.below⟩) (fun a p' s' h' => h' Γ p' rfl hΓ hl) (fun _ _ _ h' => h'.elim)
theorem segC_bind_wrap {α β : Type} {m : Sem α} {K : α → Sem β} {K' : β → Sem Fin} {H' : Value → Sem Fin} {gd lv}
    (h : wpC M (A.over c []) m (fun a s' => SegC M A c ((K a).wrap K' H' gd lv) s' Φ) (fun _ _ => False) s) : SegC M A c ((m >>= K).wrap K' H' gd lv) s Φ := by
  rw [Sem.bind_eq_wrap', Sem.wrap_wrap]; exact segC_wrap h
theorem segC_at {p' : Pos} {k : Unit → Sem Fin} (h : SegC M A c (k ()) s Φ) : SegC M A c (.at p' k) s Φ :=
  segC_wrap (m := standAt p') (K := k) (H := .raise) (gd := id) (lv := id) (wpC_standAt h)
theorem segC_again {c' : Code} (hq : c'.quiet = true) (ok : okCode c' = true) (hc : SegC M A c' (M.den c') s Φ) : SegC M A c (.pure (.again c')) s Φ := by
  rintro Γ p rfl hΓ hl
  obtain ⟨e, s', hr, he⟩ := hc (Γ.goto c') p rfl (hΓ.goto c') (hl.goto ok)
  exact ⟨e, s', Runs.head (c₁ := c') (fun _ _ x => .again hq x) hr, he⟩
theorem segC_end (r : Result) (h : Φ (.ret r) s) : SegC M A c (leafOf r) s Φ := by
  rintro Γ p rfl _ _
  exact ⟨.ret r, s, Runs.leaf r, h⟩
theorem segC_yield {v g l} {k : Resume → Sem Fin} (h : ∀ p, Φ (.susp v g l k c p []) s) : SegC M A c (.yield v g l k) s Φ := by
  rintro Γ p rfl _ _
  exact ⟨_, s, Runs.yield' [] rfl, h p⟩

noncomputable def GoC (M : Model) (A : Around) (gs : GenState) (r : Resume) (s : Shared) (Φ : End → Shared → Prop) : Prop := match gs with
  | .fresh c => okCode c = true ∧ r = .send .none ∧ SegC M A c (M.den c) s Φ
  | .suspended k _ c _ fs _ => okCode c = true ∧ fs = [] ∧ SegC M A c (k r) s Φ
  | _ => False
theorem Clean.wake {Γ : Ctx} (h : Clean Γ) {c : Code} (hc : okCode c = true) (p : Pos) : Clean (Γ.wake c p) :=
  ⟨hc, fun x hx => by
    have hx' : x ∈ (Γ.code, p) :: Γ.below := hx
    rcases List.mem_cons.mp hx' with rfl | hx'
    · exact h.here
    · exact h.below x hx'⟩
theorem wpC_resume {g : Nat} {gs : GenState} {r : Resume} {l : List Value} {α : Type} {k : GenResult → Sem α} {Q : α → Shared → Prop} {E} (hg : s.gens[g]? = some gs)
    (hgo : GoC M A gs r (s.setGen g .running) Φ) (hΦ : ∀ e s₁, Φ e s₁ → e.quiet = true ∧ wpC M A (k e.result) Q E (s₁.setGen g e.genState)) : wpC M A (.resume g r l k) Q E s := by
  intro Γ p hΓ hl
  rw [Sem.wp_resume]
  cases gs with
  | fresh c =>
    obtain ⟨ok, rfl, hs⟩ := hgo
    obtain ⟨e₁, s₁, hr, he⟩ := hs (Γ.wake c p) p rfl (hΓ.wake c p) (hl.wake ok p)
    exact ⟨_, _, by unfold Wakes; rw [hg]; exact ⟨e₁, s₁, hr, (hΦ e₁ s₁ he).1, rfl, rfl⟩, (hΦ e₁ s₁ he).2 Γ p hΓ hl⟩
  | suspended k₀ l₀ c₀ p₀ fs₀ cl =>
    obtain ⟨ok, rfl, hs⟩ := hgo
    obtain ⟨e₁, s₁, hr, he⟩ := hs (Γ.wake c₀ p) p₀ rfl (hΓ.wake c₀ p) (hl.wake ok p)
    exact ⟨_, _, by unfold Wakes; rw [hg]; exact ⟨e₁, s₁, hr, (hΦ e₁ s₁ he).1, rfl, rfl⟩, (hΦ e₁ s₁ he).2 Γ p hΓ hl⟩
  | running => exact hgo.elim
  | finished => exact hgo.elim
end

section
variable {prog : Program} {w : World} {A : Around} {s : Shared} {Φ : End → Shared → Prop}
abbrev genLoopCode (elt iter : Expr) (x : Str) (px : Pos) (scope : Scope) (pos : Pos) (it : Value) (cenv : Env) : Code := .compLoop (.GeneratorExp elt [⟨.Name x px, iter, [], 0⟩] scope pos) 0 it .none cenv
theorem gen_turn {elt iter : Expr} {x : Str} {px : Pos} {scope : Scope} {pos : Pos} {it : Value} {cenv : Env} (hco : cenv.scope.isCoroutine = false)
    (turn : wpC (model prog w) (A.over (genLoopCode elt iter x px scope pos it cenv) []) (pyNext it) (fun r s₁ => match r with
      | none => Φ (.ret (.ok .next)) s₁
      | some v => wpC (model prog w) (A.over (genLoopCode elt iter x px scope pos it cenv) []) (letOwnedTupleGo (.Name x px) it v) (fun _ s₁' =>
          wpC (model prog w) (A.over (genLoopCode elt iter x px scope pos it cenv) []) (assign (.Name x px) cenv v) (fun _ s₂ => wpC (model prog w) (A.over (genLoopCode elt iter x px scope pos it cenv) []) (eval elt cenv) (fun y s₃ =>
            ∀ g l k p, (End.susp y g l k (genLoopCode elt iter x px scope pos it cenv) p []).quiet = true → k (.send .none) = .pure (.again (genLoopCode elt iter x px scope pos it cenv)) →
              Φ (.susp y g l k (genLoopCode elt iter x px scope pos it cenv) p []) s₃) (fun _ _ => False) s₂) (fun _ _ => False) s₁') (fun _ _ => False) s₁) (fun _ _ => False) s) :
    SegC (model prog w) A (genLoopCode elt iter x px scope pos it cenv) ((model prog w).den (genLoopCode elt iter x px scope pos it cenv)) s Φ := by
  show SegC _ A _ ((compTurn (.GeneratorExp elt [⟨.Name x px, iter, [], 0⟩] scope pos) 0 it .none cenv).onRaise (leaving cenv)) s Φ
  rw [compTurn_gen, Sem.onRaise_eq_wrap]
  refine segC_bind_wrap (wpC_standAt ?_)
  refine segC_bind_wrap (wpC_then turn fun r s₁ h₁ => ?_)
  cases r with
  | none => exact segC_end (.ok .next) h₁
  | some v =>
    refine segC_bind_wrap (wpC_then h₁ fun _ s₁' h₁' => ?_)
    refine segC_bind_wrap (wpC_then h₁' fun _ s₂ h₂ => ?_)
    refine segC_bind_wrap (wpC_of_eq (a := true) (by rfl) ?_)
    simp only [if_true]
    have hy : ∀ v, yieldOut cenv v = yieldValue v := fun v => by simp only [yieldOut, hco, Bool.false_eq_true, if_false]
    simp only [hy]
    rw [Sem.bind_eq_wrap', Sem.bind_eq_wrap', Sem.wrap_wrap, Sem.wrap_wrap]
    refine segC_wrap (wpC_then h₂ fun y s₃ h₃ => ?_)
    refine segC_at (segC_yield fun p => h₃ _ _ _ p ?_ ?_)
    · rfl
    · rfl

theorem gen_start {elt iter : Expr} {x : Str} {px : Pos} {scope : Scope} {pos : Pos} {it : Value} {cenv : Env}
    (loop : SegC (model prog w) A (genLoopCode elt iter x px scope pos it cenv) ((model prog w).den (genLoopCode elt iter x px scope pos it cenv)) s Φ)
    (self : ∀ A' (Q : Value → Shared → Prop) E, Q it s → wpC (model prog w) A' (pyIter it) Q E s) :
    SegC (model prog w) A (.compStart (.GeneratorExp elt [⟨.Name x px, iter, [], 0⟩] scope pos) 0 it .none cenv) ((model prog w).den (.compStart (.GeneratorExp elt [⟨.Name x px, iter, [], 0⟩] scope pos) 0 it .none cenv)) s Φ := by
  show SegC _ A _ ((compStart (.GeneratorExp elt [⟨.Name x px, iter, [], 0⟩] scope pos) 0 it .none cenv).onRaise (leaving cenv)) s Φ
  unfold compStart
  rw [Sem.onRaise_eq_wrap]
  show SegC _ A _ ((ask >>= _).wrap _ _ _ _) s Φ
  refine segC_bind_wrap (wpC_of (wpAny_askSetting ?_))
  split
  · exact segC_again rfl rfl loop
  · refine segC_bind_wrap (wpC_rule ?_)
    show SegC _ A _ ((standAt iter.pos >>= _).wrap _ _ _ _) s Φ
    exact segC_bind_wrap (wpC_standAt (segC_bind_wrap (self _ _ _ (segC_again rfl rfl loop))))

theorem pyNext_genC {a : Addr} {g : Nat} {gs : GenState} {Q : Option Value → Shared → Prop} {E} (hh : A.handled = none)
    (hl : s.heap.NoLimit) (hroom : A.depth < recursionLimit) (hg : s.heap.IsGen a g) (hgs : s.gens[g]? = some gs)
    (hgo : GoC (model prog w) A.in1 gs (.send .none) (s.setGen g .running) Φ)
    (hΦ : ∀ e s₁, Φ e s₁ → match e with
      | .ret r => r = .ok .next ∧ ∀ h', (∀ b o, s₁.heap.get? b = some o → h'.get? b = some o) → Q none { s₁.setGen g .finished with heap := h' }
      | .susp v g' l k c p fs => (End.susp v g' l k c p fs).quiet = true ∧ Q (some v) (s₁.setGen g (End.susp v g' l k c p fs).genState)) :
    wpC (model prog w) A (pyNext (.ref a)) Q E s := by
  unfold pyNext
  refine wpC_bind (wpC_attempt (C_callSpecial (name := Str.ofString "__next__") hg.typeIs slot_gen_next
    (C_call_entry slot_gen_next hg.typeIs entry_gen_next (by show (!badIds.contains "generator.__next__") = true; decide +kernel) ?_ (args_gen_next _))))
  show wpC _ A.in1 (Builtin.Generator.genWake (.ref a) (.send .none)) _ _ s
  unfold Builtin.Generator.genWake
  refine wpC_bind (wpC_holding (wpC_of (wpAny_genNumber hg (wpC_bind (wpC_of (wpAny_genState hgs ?_))))))
  cases gs with
  | running => exact hgo.elim
  | finished => exact hgo.elim
  | _ =>
    refine wpC_bind (wpC_of (wpAny_roomToWake hl hroom ?_))
    show wpC _ A.in1 (.resume g (.send .none) [] _) _ _ s
    refine wpC_resume (Φ := Φ) hgs hgo fun e s₁ he => ?_
    have hx := hΦ e s₁ he
    cases e with
    | ret r =>
      obtain ⟨rfl, hp⟩ := hx
      refine ⟨rfl, ?_⟩
      show wpC _ A.in1 (newExc (.type "StopIteration") [] >>= _) _ _ _
      refine wpC_bind (wpC_of ?_)
      simp only [newExc, newTuple]
      refine wpAny_bind (wpAny_newObj_type ?_ (by size_fits))
      refine wpAny_bind (m := firstArgMember _ _) (wpAny_of_eq (a := Value.none) (by first | rfl | (simp only [firstArgMember]; rfl)) ?_)
      refine wpAny_newObj_type ?_ (by size_fits)
      refine wpC_of ?_
      simp only [raiseNew]
      refine wpAny_bind (wpAny_bind (wpAny_handled ?_))
      first | rw [show A.in1.handled = none from hh] | rw [hh]
      refine wpAny_throw ?_
      refine wpC_of ?_
      refine wpAny_bind (wpAny_isInstance (T := "StopIteration") (b := true) ⟨_, Heap.get?_push_size _ rfl, rfl⟩ isSubtype_stop ?_)
      exact wpAny_pure (hp _ fun b o hb => Heap.get?_push_of_some _ (Heap.get?_push_of_some _ hb))
    | susp v g' l k c p fs => exact ⟨hx.1, wpC_pure ⟨v, rfl, wpC_pure hx.2⟩⟩

theorem codeC_extend_loop {S I : Addr} {res : Value} {R : Result → Shared → Prop} (P : Nat → Shared → Prop)
    (hitem : ∀ n s, P (n + 1) s → wpC (model prog w) A.in1 (pyNext (.ref I)) (fun r s' => ∃ v, r = some v ∧ wpC (model prog w) A.in1 (updateSeq S (·.push v)) (fun _ s'' => P n s'') (fun _ _ => False) s') (fun _ _ => False) s)
    (hend : ∀ s, P 0 s → wpC (model prog w) A.in1 (pyNext (.ref I)) (fun r s' => r = none ∧ R (.ok (.ret res)) s') (fun _ _ => False) s) :
    ∀ (n : Nat) (s : Shared), P n s → codeC (model prog w) A (.builtin "list.extend.loop" ⟨[.ref S, .ref I, res], []⟩) R s := by
  intro n
  induction n with
  | zero =>
    intro s h
    refine codeC_builtin F.entry_extend_loop ?_
    rw [Around.under_plainId F.plain_extend_loop _]
    show wpC _ A.in1 (pyNext (.ref I) >>= _) _ _ s
    refine wpC_bind (wpC_mono (hend s h) (fun r s' h' => ?_) fun _ _ x => x.elim)
    obtain ⟨rfl, h'⟩ := h'
    exact wpC_pure h'
  | succ n ih =>
    intro s h
    refine codeC_builtin F.entry_extend_loop ?_
    rw [Around.under_plainId F.plain_extend_loop _]
    show wpC _ A.in1 (pyNext (.ref I) >>= _) _ _ s
    refine wpC_bind (wpC_mono (hitem n s h) (fun r s' h' => ?_) fun _ _ x => x.elim)
    obtain ⟨v, rfl, h'⟩ := h'
    show wpC _ A.in1 (updateSeq S (·.push v) >>= _) _ _ _
    refine wpC_bind (wpC_mono h' (fun _ s'' h'' => ?_) fun _ _ x => x.elim)
    exact wpC_pure ⟨plainId_quiet F.plain_extend_loop _, by show (!badIds.contains "list.extend.loop") = true; decide +kernel, ih s'' h''⟩

theorem C_collect_gen {I : Addr} {Q : List Value → Shared → Prop} {E} (P : Nat → Shared → Prop) (n : Nat) {g : Nat} (hg : s.heap.IsGen I g)
    (hstart : ∀ h' c, (∀ b o, s.heap.get? b = some o → h'.get? b = some o) → h'.get? s.heap.objs.size = some { cls := .type "list", dict := none, data := .seq #[] c, slots := #[] } → P n { s with heap := h' })
    (hitem : ∀ n s', P (n + 1) s' → wpC (model prog w) A.in1 (pyNext (.ref I)) (fun r s₁ => ∃ v, r = some v ∧ wpC (model prog w) A.in1 (updateSeq s.heap.objs.size (·.push v)) (fun _ s'' => P n s'') (fun _ _ => False) s₁) (fun _ _ => False) s')
    (hend : ∀ s', P 0 s' → wpC (model prog w) A.in1 (pyNext (.ref I)) (fun r s₁ => r = none ∧ ∃ acc c, s₁.heap.get? s.heap.objs.size = some { cls := .type "list", dict := none, data := .seq acc c, slots := #[] } ∧ Q acc.toList s₁) (fun _ _ => False) s') :
    wpC (model prog w) A (collect (.ref I)) Q E s := by
  have hlt : I < s.heap.objs.size := by obtain ⟨o, _, _, ho, _⟩ := hg; exact Heap.lt_size ho
  have hSI : s.heap.objs.size ≠ I := Nat.ne_of_gt hlt
  unfold collect
  refine wpC_bind (wpC_runValue (by show (!badIds.contains "proto.collect") = true; decide +kernel) (codeC_builtin F.entry_proto_collect ?_))
  rw [Around.under_plainId F.plain_proto_collect _]
  show wpC _ A.in1 (newList [] >>= fun l => again (.builtin "list.__iadd__" ⟨[l, .ref I], []⟩)) _ _ s
  refine wpC_bind (wpC_of (wpAny_newObj_type ?_))
  refine wpC_pure ⟨plainId_quiet F.plain_list_iadd _, by show (!badIds.contains "list.__iadd__") = true; decide +kernel, codeC_builtin F.entry_list_iadd ?_⟩
  rw [Around.under_plainId F.plain_list_iadd _]
  show wpC _ A.in1 (Builtin.List.listExtendWith (.ref s.heap.objs.size) (.ref I) (.ref s.heap.objs.size)) _ _ _
  have hT1 : ({ s with heap := s.heap.push { cls := .type "list", dict := none, data := .seq ([] : List Value).toArray } } : Shared).TypeIs (.ref I) "generator" := (hg.push _).typeIs (s := { s with heap := s.heap.push { cls := .type "list", dict := none, data := .seq ([] : List Value).toArray } })
  unfold Builtin.List.listExtendWith
  refine wpC_bind (wpC_of (wpAny_typeOf hT1 ?_))
  have h1 : Builtin.List.listSameRef (.ref s.heap.objs.size) (.ref I) = false := by simp [Builtin.List.listSameRef, hSI]
  have h2 : (Value.type "generator" == Value.type "list") = false := by decide
  have h3 : (Value.type "generator" == Value.type "tuple") = false := by decide
  simp only [h1, h2, h3, Bool.or_false, Bool.false_eq_true, if_false]
  refine wpC_bind (wpC_of (wpAny_pyIter_gen (hg.push _) ?_))
  refine wpC_bind (wpC_holding ?_)
  unfold Builtin.List.listLengthHint
  refine wpC_bind (wpC_of (wpAny_specialOf hT1 F.gen_no_len ?_))
  show wpC _ A.in1 (specialOf (Value.ref I) (Str.ofString "__length_hint__") >>= _) _ _ _
  refine wpC_bind (wpC_of (wpAny_specialOf hT1 F.gen_no_hint ?_))
  refine wpC_pure ?_
  show wpC _ A.in1 (rule "list.extend.makes-room" >>= fun _ => Builtin.List.listTouch (.ref s.heap.objs.size) >>= fun _ =>
    again (.builtin "list.extend.loop" ⟨[.ref s.heap.objs.size, .ref I, .ref s.heap.objs.size], []⟩)) _ _ _
  refine wpC_bind (wpC_rule ?_)
  have hS₁ : (s.heap.push { cls := .type "list", data := .seq ([] : List Value).toArray }).get? s.heap.objs.size = some { cls := .type "list", data := .seq ([] : List Value).toArray } := Heap.get?_push_size _ rfl
  refine wpC_bind ?_
  show wpC _ A.in1 (updateSeq s.heap.objs.size (·.push .none) >>= fun _ => updateSeq s.heap.objs.size (·.pop)) _ _ _
  refine wpC_bind (wpC_of (wpAny_updateSeq hS₁ rfl ?_))
  have hS₂ := Heap.get?_update_self (Obj.mapSeq (·.push Value.none)) hS₁ rfl
  refine wpC_of (wpAny_updateSeq hS₂ rfl ?_)
  have hS₃ := Heap.get?_update_self (Obj.mapSeq (·.pop)) hS₂ rfl
  have oth : ∀ b o, b ≠ s.heap.objs.size → (s.heap.push { cls := .type "list", data := .seq ([] : List Value).toArray }).get? b = some o →
      (((s.heap.push { cls := .type "list", data := .seq ([] : List Value).toArray }).update s.heap.objs.size (Obj.mapSeq (·.push Value.none))).update s.heap.objs.size (Obj.mapSeq (·.pop))).get? b = some o :=
    fun b o hb e => (Heap.get?_update_other _ _ (Ne.symm hb)).trans ((Heap.get?_update_other _ _ (Ne.symm hb)).trans e)
  refine wpC_pure ⟨plainId_quiet F.plain_extend_loop _, by show (!badIds.contains "list.extend.loop") = true; decide +kernel, codeC_extend_loop P hitem (fun s' h' => ?_) n _ (hstart _ _ (fun b o e => oth b o (Nat.ne_of_lt (Heap.lt_size e)) (Heap.get?_push_of_some _ e)) hS₃)⟩
  refine wpC_then (hend s' h') fun r s₁ hr => ?_
  obtain ⟨rfl, acc, c, hS, hq⟩ := hr
  refine ⟨rfl, ?_⟩
  show wpC _ A (load s.heap.objs.size >>= _) _ _ s₁
  exact wpC_bind (wpC_of (wpAny_load hS (wpC_pure hq)))

theorem call_tuple_genC {I : Addr} {Q : Value → Shared → Prop} {E} (P : Nat → Shared → Prop) (n : Nat) (hT : s.TypeIs (.ref I) "generator") {g : Nat} (hg : s.heap.IsGen I g)
    (hstart : ∀ h' c, (∀ b o, s.heap.get? b = some o → h'.get? b = some o) → h'.get? s.heap.objs.size = some { cls := .type "list", dict := none, data := .seq #[] c, slots := #[] } → P n { s with heap := h' })
    (hitem : ∀ n s', P (n + 1) s' → wpC (model prog w) A.in1.in1.in1 (pyNext (.ref I)) (fun r s₁ => ∃ v, r = some v ∧ wpC (model prog w) A.in1.in1.in1 (updateSeq s.heap.objs.size (·.push v)) (fun _ s'' => P n s'') (fun _ _ => False) s₁) (fun _ _ => False) s')
    (hend : ∀ s', P 0 s' → wpC (model prog w) A.in1.in1.in1 (pyNext (.ref I)) (fun r s₁ => r = none ∧ ∃ acc c, s₁.heap.get? s.heap.objs.size = some { cls := .type "list", dict := none, data := .seq acc c, slots := #[] } ∧
      acc.size ≤ sizeLine ∧ Q (.ref s₁.heap.objs.size) { s₁ with heap := s₁.heap.push { cls := .type "tuple", data := .seq acc } }) (fun _ _ => False) s') :
    wpC (model prog w) A (call (.type "tuple") [.ref I]) Q E s := by
  have ft := F.called_tuple
  obtain ⟨c, tl, hmro⟩ := ft.mro
  have hmade := ft.made
  have hsub := ft.sub
  have h1 := ft.notType
  have h2 := ft.canCreate
  refine wpC_call (codeC_of_tree ?_)
  show wpC _ _ (callAny (.type "tuple") _) _ _ _
  refine wpC_pure ⟨Code.quiet_builtin _ (by decide +kernel), by show (!badIds.contains "type.__call__") = true; decide +kernel, codeC_builtin F.entry_type_call ?_⟩
  rw [Around.under_plain (weight_type_call_type "tuple" [.ref I] []) (units_type_call_type "tuple" [.ref I] [])]
  unfold Builtin.«type.__call__»
  simp only [h1, Bool.false_eq_true, if_false, h2, pure_bind]
  refine wpC_bind (wpC_of_eq (F.typeCall_tuple_1 _) (wpC_bind (wpC_of_eq hmro ?_)))
  rw [if_neg (by simp)]
  refine wpC_bind (wpC_of_eq hmade ?_)
  dsimp only
  refine wpC_bind (wpC_holding (wpC_call (codeC_of_tree ?_)))
  show wpC _ A.in1.in1 (do checkBuiltinCall "tuple.__new__" ⟨[.type "tuple", .ref I], []⟩; again (.builtin "tuple.__new__" ⟨[.type "tuple", .ref I], []⟩)) _ _ s
  refine wpC_bind (wpC_of_eq (F.newCall_tuple_1 _) (wpC_pure ⟨plainId_quiet F.plain_tuple_new _, by show (!badIds.contains "tuple.__new__") = true; decide +kernel, codeC_builtin F.entry_tuple_new ?_⟩))
  rw [Around.under_plainId F.plain_tuple_new _]
  have hsub' := sub_tuple_self
  have hinit := init_tuple_lookup
  have hmh := madeHere_tuple
  unfold Builtin.«tuple.__new__»
  dsimp only
  refine wpC_bind (wpC_of_eq (a := true) (by rfl) ?_)
  rw [if_neg (by decide)]
  refine wpC_bind (wpC_of_eq hsub' ?_)
  rw [if_neg (by decide)]
  rw [if_neg (by decide +kernel)]
  refine wpC_bind (wpC_of_eq hmh ?_)
  refine wpC_bind (wpC_of_eq hinit ?_)
  rw [if_pos (by decide)]
  refine wpC_bind (wpC_of_eq (a := ()) (by rfl) ?_)
  refine wpC_bind (wpC_of_eq (a := ()) (by rfl) ?_)
  rw [if_pos (by decide)]
  unfold Builtin.Tuple.tupleIsExact
  refine wpC_bind (wpC_bind (wpC_of (wpAny_typeOf hT (wpC_pure ?_))))
  rw [if_neg (by decide)]
  refine wpC_bind ?_
  refine C_collect_gen P n hg hstart hitem fun s' h' => wpC_then (hend s' h') fun r s₁ hr => ?_
  obtain ⟨rfl, acc, c', hS, hsz, hq⟩ := hr
  refine ⟨rfl, acc, c', hS, ?_⟩
  refine wpC_bind (wpC_pure (wpC_bind ?_))
  unfold Builtin.Tuple.tupleExact
  have e : acc.toList.toArray = acc := by simp
  rw [e]
  refine wpC_of (wpAny_newObj_type ?_ hsz)
  refine wpC_pure ?_
  dsimp only
  have ho : (s₁.heap.push { cls := .type "tuple", data := .seq acc }).get? s₁.heap.objs.size = some { cls := .type "tuple", data := .seq acc } := Heap.get?_push_size _ rfl
  have hT1 : ({ s₁ with heap := s₁.heap.push { cls := .type "tuple", data := .seq acc } } : Shared).TypeIs (.ref s₁.heap.objs.size) "tuple" := ⟨_, ho, rfl⟩
  refine wpC_bind (wpC_of (wpAny_isInstance hT1 hsub ?_))
  rw [if_neg (by decide)]
  refine wpC_bind (wpC_holding (wpC_of (wpAny_callSpecial?_slot hT1 ft.init (call_meets ft.init hT1 F.entry_object_init (F.args_object_init_2 _ _) (object_init_meets F.called_tuple.init.lookup F.called_tuple.made (by decide)) ⟨hT1, ?_⟩))))
  show wpC _ _ (if (Value.none != Value.none) = true then _ else _) _ _ _
  rw [if_neg (by decide)]
  exact wpC_pure hq
end
end Mine

namespace Mine
open PySem PySem.W PyProof.Rows PySem.Calls

section
variable {M : Model} {A : Around} {E : Value → Shared → Prop} {s : Shared}
theorem C_GeneratorExp_make {env : Env} {elt target iter : Expr} {ifs : List Expr} {scope : Scope} {cl : List (Str × Addr)} {pos : Pos} {Q : Value → Shared → Prop}
    (hco : scope.isCoroutine = false) (hclos : closureFor scope env = pure cl) (hcell : ∀ y ∈ scope.names, y.2 ≠ .cell) (h0 : scope.names.lookup (".0" : Str) = some NameKind.local) (hkind : scope.kind = .function)
    (hroom : A.depth < recursionLimit)
    (h : wpC M A (eval iter env) (fun xv s₁ => wpC M A (pyIter xv) (fun it s₂ => s₂.heap.NoLimit ∧
      wpC M A (genexprCode env pos (env.qual ++ "<genexpr>") scope) (fun code s₃ => wpC M A (builtinsFor env.globals env.builtins) (fun bi s₄ =>
        ∀ h', h'.Ns s₄.heap.objs.size (fun y => if y = ".0" then some it else none) → Heap.SameBut s₄.heap.objs.size (s₄.heap.push { cls := .type "frame", data := .dict #[] }) h' →
          Q (.ref h'.objs.size) { s₄ with
            gens := s₄.gens.push (.fresh (.compStart (.GeneratorExp elt [⟨target, iter, ifs, 0⟩] scope pos) 0 it .none (genEnv scope cl s₄.heap.objs.size code bi env))),
            toks := s₄.toks + 1 + 1 + 1,
            heap := h'.push { cls := .type "generator", data := .fields #[.int s₄.gens.size 0, .str "<genexpr>" (s₄.toks + 1), .str (env.qual ++ "<genexpr>") (s₄.toks + 1 + 1)] } }) E s₃) E s₂) E s₁) E s)
    (hs : ∀ x, genFold iter env x = pure x) :
    wpC M A (eval (.GeneratorExp elt [⟨target, iter, ifs, 0⟩] scope pos) env) Q E s := by
  rw [eval_GeneratorExp1 _ _ _ _ _ _ _ hco, hclos]
  refine wpC_bind (wpC_then h (fun xv s₁ h₁ => ?_))
  refine wpC_bind (wpC_standAt ?_)
  refine wpC_bind (wpC_of_eq (hs xv) ?_)
  refine wpC_bind (wpC_holding (wpC_then h₁ (fun it s₂ h₂ => ?_)))
  refine wpC_bind (wpC_of (wpAny_enterFrame h₂.1 hroom ?_))
  refine wpC_bind (wpC_pure ?_)
  refine wpC_bind (wpC_then h₂.2 (fun code s₃ h₃ => ?_))
  refine wpC_bind (wpC_then h₃ (fun bi s₄ h₄ => ?_))
  have hbinds : ∀ y ∈ ([((".0" : Str), it)] : List (Str × Value)), scope.names.lookup y.1 = some NameKind.local := by
    intro y hy
    rcases List.mem_cons.mp hy with rfl | hy
    · exact h0
    · cases hy
  refine wpC_bind (wpC_of (wpAny_newFunctionEnv hcell hbinds (fun h' hn' hs' => ?_) hkind))
  have e : (fun y : Str => ([((".0" : Str), it)] : List (Str × Value)).reverse.lookup y) = fun y : Str => if y = (".0" : Str) then some it else none := by
    funext y
    by_cases hy : y = ".0"
    · subst hy; simp
    · have : (y == (".0" : Str)) = false := by simpa using hy
      simp [List.lookup, this, hy]
  rw [e] at hn'
  simp only [newGenerator, newFields]
  refine wpC_of (wpAny_bind (wpAny_newGen (wpAny_bind (wpAny_mkText (wpAny_bind (wpAny_mkText (wpAny_newObj_type ?_ (by size_fits))))))))
  exact h₄ h' hn' hs'
end

variable {C : Cx} {B : Base} {α : List Addr} {loc : Loc} {H : Hp} {s : Shared}

theorem elt_ba {A' : Around} {cenv : Env} {y : Str} {bpos ypos epos : Pos} {kr l : Nat} {c : Addr} {ys : List V} {ns : List Nat} {Q : Value → Shared → Prop} {E}
    (hf : GlobIs { C with A := A', env := cenv } "bytearray" (· = .type "bytearray")) (R : Rel C B α loc H s) (hke : cenv.scope.kind = .function) (hkf : cenv.kindOf y = some .free) (hc : cenv.cells.lookup y = some c) (hc0 : C.env.cells.lookup y = some c)
    (hi : At C.names y kr) (hd : (y == ("__debug__" : Str)) = false) (hn : (y == ("__classdict__" : Str)) = false)
    (hl : loc[kr]? = some (some (.ref l))) (hH : H[l]? = some (.list ys)) (hns : natsOf ys = some ns) (hlen : ys.length < 1000000)
    (he : starEach [Expr.Name y ypos] cenv = [(false, eval (.Name y ypos) cenv)])
    (hcall : eval (.Call (.Name "bytearray" bpos) [.Name y ypos] [] epos) cenv = (do callWith epos (← eval (.Name "bytearray" bpos) cenv) [] (backTo epos (starEach [Expr.Name y ypos] cenv)) (backToKw epos (keywordEach [] cenv))))
    (hQ : ∀ b h', b.toList.map (·.toNat) = ns → h'.get? s.heap.objs.size = some (baObj b) → (∀ a o, s.heap.get? a = some o → h'.get? a = some o) → Q (.ref s.heap.objs.size) { s with heap := h' }) :
    wpC (model C.prog C.w) A' (eval (.Call (.Name "bytearray" bpos) [.Name y ypos] [] epos) cenv) Q E s := by
  refine C_Call (wpC_of (hf s _ E bpos R.keepW fun v hv => ?_)) hcall
  subst hv
  rw [he]
  refine C_callWith_type rfl (C_evalArgs (C_spliced_raw ?_))
  obtain ⟨ov, hcell, hm⟩ := R.cl y c hc0
  obtain ⟨v', rfl, h2⟩ := hm kr _ hi.get hl
  refine wpC_of (wpAny_Name (wpAny_loadName_free hke hkf hc hcell ?_ hn) hd)
  refine C_spliced_nil (env := cenv) (pos := epos) ?_
  obtain ⟨a, us, n, rfl, hal, ho, rv⟩ := R.listAt hH h2
  obtain ⟨rfl, hb⟩ := natsOf_some hns
  have e1 := bytes_take rv hb
  have e2 := bytes_map rv
  have hlen' := rv.length
  refine call_ba ho (.inl rfl) ((ns.map (·.toUInt8)).toArray) ?_ ?_ ?_ fun h' hn' hk => hQ _ h' (bytes_back hb) hn' hk
  · exact (congrArg List.length e1).trans (by simp)
  · rw [List.size_toArray, hlen', sizeLine_eq]; omega
  · exact congrArg List.toArray ((congrArg (List.filterMap _) e1).trans e2)

theorem AllBare.set {gens : Shared} {g : Nat} {gs x : GenState} (h : AllBare gens.gens) (hg : gens.gens[g]? = some gs) (hb : x.bare = true) : AllBare (gens.setGen g x).gens :=
  (GenOnlyQ.of (GenOnly.setGen gens g x) (setGen_self hg) hb).bare h

/-- between two turns of the generator -/
structure GInv (C : Cx) (B : Base) (α : List Addr) (loc : Loc) (H : Hp) (ns : List Nat) (I L S a : Addr) (g N : Nat) (a0 st : Int) (startc loopc : Code) (i : Nat) (s : Shared) : Prop where
  rel : ∃ α', α <+: α' ∧ Rel C B α' loc (H ++ List.replicate i (.ba ns)) s ∧ Nobody C B α' I ∧ Nobody C B α' L ∧ Nobody C B α' S ∧ ∃ acc c, s.heap.get? S = some { cls := .type "list", dict := none, data := .seq acc c, slots := #[] } ∧
    VRs α' ((List.range i).map fun j => .ref (H.length + j)) acc.toList
  ne : I ≠ L ∧ I ≠ S ∧ L ≠ S ∧ a ≠ I ∧ a ≠ L ∧ a ≠ S
  it : IsRangeIter s.heap I (a0 + (i : Int) * st) ((N - i : Nat) : Int) st
  nsL : ∃ m, s.heap.Ns L m
  gen : s.heap.IsGen a g
  gs : ∃ gs, s.gens[g]? = some gs ∧ ((gs = .fresh startc ∧ i = 0) ∨ ∃ k l p cl, gs = .suspended k l loopc p [] cl ∧ k (.send .none) = .pure (.again loopc))

/-- what a turn of the generator leaves -/
noncomputable def TurnΦ (ns : List Nat) (I L : Addr) (g N : Nat) (a0 st : Int) (loopc : Code) (i : Nat) (s : Shared) (e : End) (s₁ : Shared) : Prop := match e with
  | .ret r => i = N ∧ r = .ok .next ∧ ∃ h₁, Heap.ExtBut I s.heap h₁ ∧ s₁ = { s.setGen g .running with heap := h₁ }
  | .susp v gd l k c p fs => i < N ∧ (End.susp v gd l k c p fs).quiet = true ∧ c = loopc ∧ fs = [] ∧ k (.send .none) = .pure (.again loopc) ∧
      ∃ h₁ h₂ h₃ b tk, b.toList.map (·.toNat) = ns ∧ Heap.SameBut I s.heap h₁ ∧ IsRangeIter h₁ I (a0 + (i : Int) * st + st) (((N - i : Nat) : Int) - 1) st ∧ Heap.SameBut L h₁ h₂ ∧ (∃ m, h₂.Ns L m) ∧
        h₃.get? h₂.objs.size = some (baObj b) ∧ (∀ a o, h₂.get? a = some o → h₃.get? a = some o) ∧ v = .ref h₂.objs.size ∧ s₁ = { s.setGen g .running with heap := h₃, toks := tk }

section
variable {α0 : List Addr} {H0 : Hp} {ns : List Nat} {I L S a : Addr} {g N : Nat} {a0 st : Int} {elt iter : Expr} {x : Str} {px pos : Pos} {scope : Scope} {cenv : Env}

/-- one turn inside of the generator -/
theorem gen_go (K : COk C) {A' : Around} (hA : A'.handled = none) {i : Nat} (hiN : i ≤ N) (hL : cenv.locals = L) (hkx : cenv.kindOf x = some .local) (hke : cenv.scope.kind = .function) (hco : cenv.scope.isCoroutine = false)
    (hE : ∀ (A'' : Around) B α H s Q E, A''.handled = none → Rel C B α loc (H0 ++ H) s → (∀ b h', b.toList.map (·.toNat) = ns → h'.get? s.heap.objs.size = some (baObj b) → (∀ a o, s.heap.get? a = some o → h'.get? a = some o) → Q (.ref s.heap.objs.size) { s with heap := h' }) →
      wpC (model C.prog C.w) A'' (eval elt cenv) Q E s)
    (G : GInv C B α0 loc H0 ns I L S a g N a0 st (.compStart (.GeneratorExp elt [⟨.Name x px, iter, [], 0⟩] scope pos) 0 (.ref I) .none cenv) (genLoopCode elt iter x px scope pos (.ref I) cenv) i s) {gs} (hgs : s.gens[g]? = some gs)
    : GoC (model C.prog C.w) A' gs (.send .none) (s.setGen g .running) (TurnΦ ns I L g N a0 st (genLoopCode elt iter x px scope pos (.ref I) cenv) i s) := by
  obtain ⟨α', p, R, NI, NL, NS, acc, c, hS, rv⟩ := G.rel
  obtain ⟨n1, n2, n3, n4, n5, n6⟩ := G.ne
  have Rr : Rel C B α' loc (H0 ++ List.replicate i (.ba ns)) (s.setGen g .running) := R.extX (fun b o _ e => e) NI.a NI.o NI.b NI.w rfl (AllBare.set R.gens hgs rfl)
  have hA' : ∀ c, (A'.over c []).handled = none := fun c => hA
  have turn : SegC (model C.prog C.w) A' (genLoopCode elt iter x px scope pos (.ref I) cenv) ((model C.prog C.w).den (genLoopCode elt iter x px scope pos (.ref I) cenv)) (s.setGen g .running)
      (TurnΦ ns I L g N a0 st (genLoopCode elt iter x px scope pos (.ref I) cenv) i s) := by
    refine gen_turn hco ?_
    by_cases hi : i < N
    · refine wpC_of (wpAny_pyNext_range_item G.it (by omega) fun h₁ hit₁ hs₁ => ?_)
      have R1 := Rr.extX (s' := { s.setGen g .running with heap := h₁, toks := s.toks + 1 }) (fun b o hne e => (hs₁.2 b hne).trans e) NI.a NI.o NI.b NI.w rfl Rr.gens
      refine wpC_of (letOwned_plain hit₁ rfl rfl (by decide) ?_)
      obtain ⟨m, hm⟩ := G.nsL
      have hm1 : h₁.Ns cenv.locals m := by rw [hL]; exact hm.sameBut hs₁ (Ne.symm n1)
      refine wpC_of (wpAny_assign_Name (wpAny_storeName_local hkx hm1 (fun h₂ hn₂ hs₂ => ?_) (by rw [hke]; rfl)))
      rw [hL] at hn₂ hs₂
      have R2 := R1.extX (s' := { s.setGen g .running with heap := h₂, toks := s.toks + 1 + 1 }) (fun b o hne e => (hs₂.2 b hne).trans e) NL.a NL.o NL.b NL.w rfl R1.gens
      refine hE _ _ _ _ _ _ _ (hA' _) R2 fun b h₃ hb h3 hk3 => ?_
      intro gd l k p hq hk
      exact ⟨hi, hq, rfl, rfl, hk, h₁, h₂, h₃, b, _, hb, hs₁, hit₁, hs₂, ⟨_, hn₂⟩, h3, hk3, rfl, rfl⟩
    · have hiN : N - i = 0 := by omega
      refine wpC_of (wpAny_pyNext_range_end (hA' _) G.it (by rw [hiN]; exact Int.le_refl _) fun h₁ hx => ?_)
      exact ⟨by omega, rfl, h₁, hx, rfl⟩
  obtain ⟨gs', hg', hcase⟩ := G.gs
  rw [hgs] at hg'; cases hg'
  rcases hcase with ⟨rfl, hi0⟩ | ⟨k, l, p', cl, rfl, hk⟩
  · exact ⟨rfl, rfl, gen_start turn fun A'' Q E q => wpC_of (wpAny_pyIter_rangeiter G.it q)⟩
  · refine ⟨rfl, rfl, ?_⟩
    show SegC _ _ _ (k (.send .none)) _ _
    rw [hk]
    exact segC_again rfl rfl turn
end
end Mine

namespace Mine
open PySem PySem.W PyProof.Rows PySem.Calls

variable {C : Cx} {B : Base} {α : List Addr} {loc : Loc} {H : Hp} {s : Shared}

/-- a tracked object that the fixed heap does not hold is changed -/
theorem Rel.updT (R : Rel C B α loc H s) {s' : Shared} {k : Nat} {a : Addr} {mo : O} {o : Obj} (ha : α[k]? = some a) (hW : C.W.get? a = none)
    (hk : ∀ b o, b ≠ a → s.heap.get? b = some o → s'.heap.get? b = some o) (ho : s'.os = s.os) (hg : s'.gens = s.gens)
    (hn : s'.heap.get? a = some o) (hr : OR α mo o) : Rel C B α loc (H.set k mo) s' := by
  have hmem : a ∈ α := List.mem_of_getElem? ha
  have hkl : k < α.length := (List.getElem?_eq_some_iff.mp ha).1
  refine { len := by simp [R.len], nd := R.nd, obj := ?_, keep := ?_, keepW := ?_, lo := R.lo, nf := R.nf, fz := R.fz, offL := R.offL, offC := R.offC, ns := ?_, cl := ?_, os := ho.trans R.os, gens := by rw [hg]; exact R.gens }
  · intro j mo' e
    by_cases hj : k = j
    · subst hj
      rw [List.getElem?_set_self (by rw [← R.len]; exact hkl)] at e
      cases e
      exact ⟨a, o, ha, hn, hr⟩
    · rw [List.getElem?_set_ne hj] at e
      obtain ⟨b, o', h1, h2, h3⟩ := R.obj j mo' e
      refine ⟨b, o', h1, hk b o' (fun q => hj ?_) h2, h3⟩
      subst q
      exact (List.getElem?_inj hkl R.nd).mp (ha.trans h1.symm)
  · intro b o' e
    exact ⟨hk b o' (fun q => (R.keep b o' e).2.1 (q ▸ hmem)) (R.keep b o' e).1, (R.keep b o' e).2⟩
  · intro b o' e
    exact hk b o' (fun q => by rw [q, hW] at e; cases e) (R.keepW b o' e)
  · obtain ⟨m, h1, h2⟩ := R.ns
    exact ⟨m, h1.at' fun o e => hk _ o (fun q => R.offL (q ▸ hmem)) e, h2⟩
  · intro x c e
    obtain ⟨ov, ⟨oc, h1, h1'⟩, h2⟩ := R.cl x c e
    exact ⟨ov, ⟨oc, hk _ _ (fun q => R.offC x c e (q ▸ hmem)) h1, h1'⟩, h2⟩

/-- the code that holds a genexp, and its table -/
structure TabOk (C : Cx) (kt : Nat) (c P : Addr) : Prop where
  fz : C.fz[kt]? = some P
  w : C.W.get? P = none
  code : C.env.code = .ref c
  obj : ∃ o vs file tf flags tg inF text tt, C.W.get? c = some o ∧ o.cls = .type "code" ∧ o.data = .fields vs ∧ vs[11]? = some (.ref P) ∧ vs.getD 18 .none = .str file tf ∧
    vs.getD 7 .none = .int flags tg ∧ vs.getD 9 .none = .bool inF ∧ vs.getD 10 .none = .int text tt
  ne : c ≠ P

theorem Rel.genCode {kt : Nat} {c P : Addr} {pos : Pos} {q : Str} {scope : Scope} {Q : Value → Shared → Prop} {E} (T : TabOk C kt c P) (R : Rel C B α loc H s) (hH : H[kt]? = some .tab)
    (hQ : ∀ code h' tk, Rel C B α loc H { s with heap := h', toks := tk } → (∀ b o, b ≠ P → s.heap.get? b = some o → h'.get? b = some o) → P ∈ α → Q code { s with heap := h', toks := tk }) :
    wpAny (model C.prog C.w) C.A (genexprCode C.env pos q scope) Q E s := by
  have ha : α[kt]? = some P := by
    obtain ⟨r, hr⟩ := R.fz
    rw [← hr, List.getElem?_append_left (List.getElem?_eq_some_iff.mp T.fz).1]; exact T.fz
  obtain ⟨o, vs, file, tf, flags, tg, inF, text, tt, ho, hc, hd, h11, h2, h7, h9, h10⟩ := T.obj
  obtain ⟨oP, hoP, hr⟩ := R.at hH ha
  cases hr with
  | @tab ps htr =>
  have hmem : P ∈ α := List.mem_of_getElem? ha
  have h11' : vs.getD 11 .none = .ref P := by rw [Array.getD_eq_getD_getElem?, h11]; rfl
  have hco := R.keepW _ _ ho
  have hcode : s.heap.IsCode c P ps := ⟨o, vs, file, tf, flags, tg, inF, text, tt, _, hco, hd, h11', h2, h7, h9, h10, hoP, rfl, htr, T.ne⟩
  have htab : s.heap.TableAt c P ps := ⟨⟨o, vs, hco, hc, hd, h11⟩, hoP⟩
  cases hnf : codeAmong pos ps.toList with
  | some cv => exact wpAny_genexprCode_hit T.code hcode hnf (hQ cv s.heap s.toks R (fun b o _ e => e) hmem)
  | none =>
    refine wpAny_genexprCodeX T.code hcode htab hnf fun c' h' tk hx _ _ hic _ htab' _ => ?_
    refine hQ _ h' tk ?_ hx hmem
    have htr' : TriplesOk (ps ++ #[rawInt pos.line, rawInt pos.col, .ref c']).toList := by
      obtain ⟨_, _, _, _, _, _, _, _, _, _, _, _, _, _, _, _, _, hop, hdp, ht, _⟩ := hic
      rw [htab'.2] at hop; cases hop; cases hdp; exact ht
    have hset : H.set kt .tab = H := by
      apply List.ext_getElem?
      intro j
      by_cases hj : kt = j
      · subst hj; rw [List.getElem?_set_self (List.getElem?_eq_some_iff.mp hH).1, hH]
      · rw [List.getElem?_set_ne hj]
    rw [← hset]
    exact R.updT (s' := { s with heap := h', toks := tk }) ha T.w hx rfl rfl htab'.2 (.tab htr')

theorem Nobody.snoc {b d : Addr} (N : Nobody C B α b) (h : b ≠ d) : Nobody C B (α ++ [d]) b :=
  ⟨fun hm => by
    rcases List.mem_append.mp hm with q | q
    · exact N.a q
    · simp at q; exact h q, N.o, N.b, N.w⟩

noncomputable def tupGenF (kt kr : Nat) (it : XF) : XF := fun loc H => match it loc H with
  | some (.ref k, H1) => match H1[k]? with
    | some (.rng a b c) => if H1[kt]? = some .tab then match loc[kr]? with
      | some (some (.ref l)) => match H1[l]? with
        | some (.list ys) => match natsOf ys with
          | some ns => if Builtin.Range.small a b c = true ∧ ys.length < 1000000 ∧ (Builtin.Range.rangeSize a b c).toNat < 1000000 then
              some (.ref (H1.length + (Builtin.Range.rangeSize a b c).toNat), H1 ++ List.replicate (Builtin.Range.rangeSize a b c).toNat (.ba ns) ++ [.tup ((List.range (Builtin.Range.rangeSize a b c).toNat).map fun j => .ref (H1.length + j))])
            else none
          | none => none
        | _ => none
      | _ => none
      else none
    | _ => none
  | _ => none

theorem gen_item (K : COk C) {α0 : List Addr} {H0 : Hp} {ns : List Nat} {I L S a : Addr} {g N : Nat} {a0 st : Int} {startc loopc : Code} {i : Nat} (hN : N < 1000000) (hi : i < N) {s s₁ : Shared}
    (G : GInv C B α0 loc H0 ns I L S a g N a0 st startc loopc i s) {v : Value} {gd : Bool} {l : List Value} {k : Resume → Sem Fin} {c : Code} {p : Pos} {fs : List Frame}
    (h : TurnΦ ns I L g N a0 st loopc i s (.susp v gd l k c p fs) s₁) {A : Around} :
    wpC (model C.prog C.w) A (updateSeq S (·.push v)) (fun _ s'' => GInv C B α0 loc H0 ns I L S a g N a0 st startc loopc (i + 1) s'') (fun _ _ => False) (s₁.setGen g (End.susp v gd l k c p fs).genState) := by
  obtain ⟨_, hq, rfl, rfl, hk, h₁, h₂, h₃, b, tk, hb, hs₁, hit₁, hs₂, ⟨m, hm⟩, h3, hk3, rfl, rfl⟩ := h
  obtain ⟨α', pp, R, NI, NL, NS, acc, cc, hS, rv⟩ := G.rel
  obtain ⟨n1, n2, n3, n4, n5, n6⟩ := G.ne
  obtain ⟨gs, hgs, _⟩ := G.gs
  have hS1 : h₁.get? S = some _ := (hs₁.2 S (Ne.symm n2)).trans hS
  have hS2 : h₂.get? S = some _ := (hs₂.2 S (Ne.symm n3)).trans hS1
  have hS3 := hk3 _ _ hS2
  have hI2 : h₂.get? I = some _ := (hs₂.2 I n1).trans hit₁
  have hsz : acc.size = i := by have := rv.length; simpa using this
  have hS4 : (({ s.setGen g .running with heap := h₃, toks := tk } : Shared).setGen g (End.susp (.ref h₂.objs.size) gd l k c p []).genState).heap.get? S = some { cls := .type "list", dict := none, data := .seq acc cc, slots := #[] } := hS3
  refine wpC_of (wpAny_updateSeq hS4 rfl ?_ (by rw [hsz, sizeLine_eq]; omega) (by rw [Array.size_push, hsz, sizeLine_eq]; omega))
  have R1 := R.extX (s' := { s with heap := h₁ }) (fun b o hne e => (hs₁.2 b hne).trans e) NI.a NI.o NI.b NI.w rfl R.gens
  have R2 := R1.extX (s' := { s with heap := h₂ }) (fun b o hne e => (hs₂.2 b hne).trans e) NL.a NL.o NL.b NL.w rfl R1.gens
  have R3 := R2.alloc K (s' := { s with heap := h₃ }) hk3 rfl rfl h3 (Nat.le_refl _) (.ba hb)
  have hSlt : S < h₂.objs.size := Heap.lt_size hS2
  have hIlt : I < h₂.objs.size := Heap.lt_size hI2
  have hLlt : L < h₂.objs.size := hm.lt
  have NI' := NI.snoc (Nat.ne_of_lt hIlt)
  have NL' := NL.snoc (Nat.ne_of_lt hLlt)
  have NS' := NS.snoc (Nat.ne_of_lt hSlt)
  have hup : ∀ b o, b ≠ S → h₃.get? b = some o → (h₃.update S (Obj.mapSeq fun x => x.push (.ref h₂.objs.size))).get? b = some o := fun b o hne e => (Heap.get?_update_other _ _ (Ne.symm hne)).trans e
  have gb : AllBare ((({ s.setGen g .running with heap := h₃, toks := tk } : Shared).setGen g (End.susp (.ref h₂.objs.size) gd l k c p []).genState).gens) :=
    AllBare.set (gens := { s.setGen g .running with heap := h₃, toks := tk }) (AllBare.set R.gens hgs rfl) (setGen_self hgs) (End.bare_of_quiet hq)
  have R4 := R3.extX (s' := { (({ s.setGen g .running with heap := h₃, toks := tk } : Shared).setGen g (End.susp (.ref h₂.objs.size) gd l k c p []).genState) with heap := h₃.update S (Obj.mapSeq fun x => x.push (.ref h₂.objs.size)) })
    hup NS'.a NS'.o NS'.b NS'.w rfl gb
  have hHe : H0 ++ List.replicate i (O.ba ns) ++ [.ba ns] = H0 ++ List.replicate (i + 1) (.ba ns) := by rw [List.append_assoc, ← List.replicate_succ']
  have hgen : h₂.IsGen a g := (G.gen.sameBut hs₁ n4).sameBut hs₂ n5
  refine { rel := ⟨α' ++ [h₂.objs.size], pp.trans (prefix_snoc _ _), hHe ▸ R4, NI', NL', NS', acc.push (.ref h₂.objs.size), _, Heap.get?_update_self _ hS3 rfl, ?_⟩, ne := G.ne, it := ?_, nsL := ⟨m, ?_⟩, gen := ?_, gs := ⟨_, setGen_self (gs := .running) (setGen_self hgs), .inr ⟨k, _, p, _, rfl, hk⟩⟩ }
  · rw [List.range_succ, List.map_append, Array.toList_push]
    refine (rv.mono (prefix_snoc _ _)).append (.cons (.ref _ _ ?_) .nil)
    have hl := R.len
    rw [List.length_append, List.length_replicate] at hl
    rw [← hl, List.getElem?_append_right (Nat.le_refl _), Nat.sub_self]; rfl
  · have e1 : a0 + ((i + 1 : Nat) : Int) * st = a0 + (i : Int) * st + st := by push_cast; rw [Int.add_mul, Int.one_mul, Int.add_assoc]
    have e2 : ((N - (i + 1) : Nat) : Int) = ((N - i : Nat) : Int) - 1 := by omega
    rw [e1, e2]
    exact hup _ _ n2 (hk3 _ _ ((hs₂.2 I n1).trans hit₁))
  · exact (hm.keeps hk3).at' fun o e => hup _ _ n3 e
  · obtain ⟨o, nm, qn, ho, rest⟩ := hgen.keeps hk3
    exact ⟨o, nm, qn, hup _ _ n6 ho, rest⟩
end Mine

namespace Mine
open PySem PySem.W PyProof.Rows PySem.Calls

variable {C : Cx} {B : Base} {α : List Addr} {loc : Loc} {H : Hp} {s : Shared}

/-- what the scope of the genexp must say -/
structure GenOk (C : Cx) (scope : Scope) (cl : List (Str × Addr)) (x y : Str) (kr : Nat) (c : Addr) : Prop where
  co : scope.isCoroutine = false
  clos : closureFor scope C.env = pure cl
  nocell : ∀ y ∈ scope.names, y.2 ≠ .cell
  h0 : scope.names.lookup (".0" : Str) = some NameKind.local
  kind : scope.kind = .function
  hx : scope.names.lookup x = some .local
  hy : scope.names.lookup y = some .free
  cy : cl.lookup y = some c
  cy0 : C.env.cells.lookup y = some c
  ay : At C.names y kr

theorem sim_tupGen (K : COk C) {kt kr : Nat} {cd P c : Addr} {x y : Str} {npos bpos ypos epos px pos cpos : Pos} {iter : Expr} {scope : Scope} {cl : List (Str × Addr)} {f : XF}
    (hroom : C.A.depth < recursionLimit) (hlim : C.W.NoLimit) (T : TabOk C kt cd P) (O : GenOk C scope cl x y kr c) (h1 : SimE C iter f)
    (hft : GlobIs C "tuple" (· = .type "tuple")) (hfb : ∀ A' L code, GlobIs { C with A := A', env := genEnv scope cl L code builtinsNs C.env } "bytearray" (· = .type "bytearray"))
    (hbi : ∀ (s : Shared) (Q : Addr → Shared → Prop) E, (∀ b o, C.W.get? b = some o → s.heap.get? b = some o) → Q builtinsNs s → wpAny (model C.prog C.w) C.A (builtinsFor C.env.globals C.env.builtins) Q E s)
    (hd : (y == ("__debug__" : Str)) = false) (hn : (y == ("__classdict__" : Str)) = false) (hs : ∀ x, genFold iter C.env x = pure x)
    (hey : ∀ env, starEach [Expr.Name y ypos] env = [(false, eval (.Name y ypos) env)])
    (hcy : ∀ env, eval (.Call (.Name "bytearray" bpos) [.Name y ypos] [] epos) env = (do callWith epos (← eval (.Name "bytearray" bpos) env) [] (backTo epos (starEach [Expr.Name y ypos] env)) (backToKw epos (keywordEach [] env))))
    (het : ∀ env, starEach [Expr.GeneratorExp (.Call (.Name "bytearray" bpos) [.Name y ypos] [] epos) [⟨.Name x px, iter, [], 0⟩] scope pos] env = [(false, eval (Expr.GeneratorExp (.Call (.Name "bytearray" bpos) [.Name y ypos] [] epos) [⟨.Name x px, iter, [], 0⟩] scope pos) env)])
    (hct : ∀ env, eval (.Call (.Name "tuple" npos) [Expr.GeneratorExp (.Call (.Name "bytearray" bpos) [.Name y ypos] [] epos) [⟨.Name x px, iter, [], 0⟩] scope pos] [] cpos) env = (do callWith cpos (← eval (.Name "tuple" npos) env) [] (backTo cpos (starEach [Expr.GeneratorExp (.Call (.Name "bytearray" bpos) [.Name y ypos] [] epos) [⟨.Name x px, iter, [], 0⟩] scope pos] env)) (backToKw cpos (keywordEach [] env)))) :
    SimE C (.Call (.Name "tuple" npos) [Expr.GeneratorExp (.Call (.Name "bytearray" bpos) [.Name y ypos] [] epos) [⟨.Name x px, iter, [], 0⟩] scope pos] [] cpos) (tupGenF kt kr f) := by
  intro B α loc H s v H' Q E R h hQ
  unfold tupGenF at h
  split at h
  case h_2 => cases h
  rename_i k H1 e1
  split at h
  case h_2 => cases h
  rename_i a b st hk
  split at h
  case isFalse => cases h
  rename_i htab
  split at h
  case h_2 => cases h
  rename_i l hl
  split at h
  case h_2 => cases h
  rename_i ys hys
  split at h
  case h_2 => cases h
  rename_i ns hns
  split at h
  case isFalse => cases h
  rename_i hb
  obtain ⟨hsm, hylen, hN⟩ := hb
  cases h
  generalize hNe : (Builtin.Range.rangeSize a b st).toNat = N at *
  refine C_Call (wpC_of (hft s _ E npos R.keepW fun v hv => ?_)) (hct _)
  subst hv
  rw [het]
  refine C_callWith_type rfl (C_evalArgs (C_spliced_raw ?_))
  refine C_GeneratorExp_make O.co O.clos O.nocell O.h0 O.kind hroom (h1 R e1 fun α1 va s1 p1 R1 ra => ?_) hs
  obtain ⟨ad, t0, u0, w0, rfl, hal, hr⟩ := R1.rngAt hk ra
  have NI := R1.nobody
  refine wpC_of (wpAny_pyIter_range hr hsm ?_)
  have R2 := R1.ext (s' := { s1 with heap := s1.heap.push { cls := .type "range_iterator", data := .fields #[rawInt a, rawInt (Builtin.Range.rangeSize a b st), rawInt st] } }) (fun b o e => Heap.get?_push_of_some _ e) rfl rfl
  have hit : IsRangeIter (s1.heap.push { cls := .type "range_iterator", data := .fields #[rawInt a, rawInt (Builtin.Range.rangeSize a b st), rawInt st] }) s1.heap.objs.size a (Builtin.Range.rangeSize a b st) st := Heap.get?_push_size _ rfl
  refine ⟨hlim.keeps R2.keepW, wpC_of (R2.genCode T htab fun code h3 tk3 R3 hk3 hPm => wpC_of (hbi _ _ _ R3.keepW ?_))⟩
  have hIP : s1.heap.objs.size ≠ P := fun q => NI.a (q ▸ hPm)
  have hit3 := hk3 _ _ hIP hit
  have NL := R3.nobody
  intro h4 hn4 hs4
  dsimp only at hn4 hs4 NL ⊢
  have hk4 : ∀ b o, b ≠ h3.objs.size → h3.get? b = some o → h4.get? b = some o := fun b o hb e => hs4.extBut b o hb (Heap.get?_push_of_some _ e)
  have hsz4 : h4.objs.size = h3.objs.size + 1 := by rw [hs4.1, Heap.size_push]
  have R4 := R3.extX (s' := { s1 with heap := h4, toks := tk3 }) hk4 NL.a NL.o NL.b NL.w rfl R3.gens
  have hIL : s1.heap.objs.size ≠ h3.objs.size := Nat.ne_of_lt (Heap.lt_size hit3)
  have hit4 := hk4 _ _ hIL hit3
  have hk5 : ∀ b o, h4.get? b = some o → (h4.push { cls := .type "generator", data := .fields #[.int s1.gens.size 0, .str "<genexpr>" (tk3 + 1), .str (C.env.qual ++ "<genexpr>") (tk3 + 1 + 1)] }).get? b = some o := fun b o e => Heap.get?_push_of_some _ e
  have R5 := R4.extX (s' := { s1 with
            gens := s1.gens.push (.fresh (.compStart (.GeneratorExp (.Call (.Name "bytearray" bpos) [.Name y ypos] [] epos) [⟨.Name x px, iter, [], 0⟩] scope pos) 0 (.ref s1.heap.objs.size) .none (genEnv scope cl h3.objs.size code builtinsNs C.env))),
            toks := tk3 + 1 + 1 + 1,
            heap := h4.push { cls := .type "generator", data := .fields #[.int s1.gens.size 0, .str "<genexpr>" (tk3 + 1), .str (C.env.qual ++ "<genexpr>") (tk3 + 1 + 1)] } }) (I := s1.heap.objs.size) (fun b o _ e => hk5 b o e) NI.a NI.o NI.b NI.w rfl (R4.gens.push rfl)
  have hgen : (h4.push { cls := .type "generator", data := .fields #[.int s1.gens.size 0, .str "<genexpr>" (tk3 + 1), .str (C.env.qual ++ "<genexpr>") (tk3 + 1 + 1)] }).IsGen h4.objs.size s1.gens.size := ⟨_, _, _, Heap.get?_push_size _ rfl, rfl, rfl, rfl⟩
  refine C_spliced_nil (env := C.env) (pos := cpos) ?_
  show wpC _ C.A (call (.type "tuple") [.ref h4.objs.size]) Q E _
  generalize hs5 : ({ s1 with
            gens := s1.gens.push (.fresh (.compStart (.GeneratorExp (.Call (.Name "bytearray" bpos) [.Name y ypos] [] epos) [⟨.Name x px, iter, [], 0⟩] scope pos) 0 (.ref s1.heap.objs.size) .none (genEnv scope cl h3.objs.size code builtinsNs C.env))),
            toks := tk3 + 1 + 1 + 1,
            heap := h4.push { cls := .type "generator", data := .fields #[.int s1.gens.size 0, .str "<genexpr>" (tk3 + 1), .str (C.env.qual ++ "<genexpr>") (tk3 + 1 + 1)] } } : Shared) = s5 at *
  have hgen5 : s5.heap.IsGen h4.objs.size s1.gens.size := by rw [← hs5]; exact hgen
  have NS := R5.nobody
  have hit5 : IsRangeIter s5.heap s1.heap.objs.size a (Builtin.Range.rangeSize a b st) st := by rw [← hs5]; exact hk5 _ _ hit4
  have hL5 : ∃ m, s5.heap.Ns h3.objs.size m := ⟨_, by rw [← hs5]; exact hn4.keeps hk5⟩
  have hg5 : s5.gens[s1.gens.size]? = some (.fresh (.compStart (.GeneratorExp (.Call (.Name "bytearray" bpos) [.Name y ypos] [] epos) [⟨.Name x px, iter, [], 0⟩] scope pos) 0 (.ref s1.heap.objs.size) .none (genEnv scope cl h3.objs.size code builtinsNs C.env))) := by
    rw [← hs5]; exact Array.getElem?_push_size ..
  have hI4 : s1.heap.objs.size < h4.objs.size := Heap.lt_size hit4
  have hI5 : s1.heap.objs.size < s5.heap.objs.size := Heap.lt_size hit5
  have hL5' : h3.objs.size < s5.heap.objs.size := hL5.choose_spec.lt
  have ha5 : h4.objs.size < s5.heap.objs.size := by obtain ⟨o, _, _, ho, _⟩ := hgen5; exact Heap.lt_size ho
  have hrs : Builtin.Range.rangeSize a b st = (N : Int) := by rw [← hNe, Int.toNat_of_nonneg (rangeSize_nonneg a b st)]
  have hmk : ∀ (i : Nat) (s' : Shared), i ≤ N → ∀ gs, s'.gens[s1.gens.size]? = some gs → GInv C B α1 loc H1 ns s1.heap.objs.size h3.objs.size s5.heap.objs.size h4.objs.size s1.gens.size N a st
      (.compStart (.GeneratorExp (.Call (.Name "bytearray" bpos) [.Name y ypos] [] epos) [⟨.Name x px, iter, [], 0⟩] scope pos) 0 (.ref s1.heap.objs.size) .none (genEnv scope cl h3.objs.size code builtinsNs C.env))
      (genLoopCode (.Call (.Name "bytearray" bpos) [.Name y ypos] [] epos) iter x px scope pos (.ref s1.heap.objs.size) (genEnv scope cl h3.objs.size code builtinsNs C.env)) i s' →
      GoC (model C.prog C.w) C.A.in1.in1.in1.in1 gs (.send .none) (s'.setGen s1.gens.size .running) (TurnΦ ns s1.heap.objs.size h3.objs.size s1.gens.size N a st
        (genLoopCode (.Call (.Name "bytearray" bpos) [.Name y ypos] [] epos) iter x px scope pos (.ref s1.heap.objs.size) (genEnv scope cl h3.objs.size code builtinsNs C.env)) i s') := fun i s' hi gs hgs G =>
    gen_go (A' := C.A.in1.in1.in1.in1) (L := h3.objs.size) (cenv := genEnv scope cl h3.objs.size code builtinsNs C.env) K K.hh hi rfl O.hx O.kind O.co (fun A'' B α H s Q E _ R hQ => elt_ba (hfb A'' _ _) R O.kind O.hy O.cy O.cy0 O.ay hd hn hl
      (by rw [List.getElem?_append_left (List.getElem?_eq_some_iff.mp hys).1]; exact hys) hns hylen (hey _) (hcy _) hQ) G hgs
  refine call_tuple_genC (fun n s' => ∃ i, i + n = N ∧ GInv C B α1 loc H1 ns s1.heap.objs.size h3.objs.size s5.heap.objs.size h4.objs.size s1.gens.size N a st
      (.compStart (.GeneratorExp (.Call (.Name "bytearray" bpos) [.Name y ypos] [] epos) [⟨.Name x px, iter, [], 0⟩] scope pos) 0 (.ref s1.heap.objs.size) .none (genEnv scope cl h3.objs.size code builtinsNs C.env))
      (genLoopCode (.Call (.Name "bytearray" bpos) [.Name y ypos] [] epos) iter x px scope pos (.ref s1.heap.objs.size) (genEnv scope cl h3.objs.size code builtinsNs C.env)) i s') N (hgen5.typeIs (s := s5)) hgen5 (fun h' c' hk' hS' => ?_) (fun n s' hP => ?_) fun s' hP => ?_
  · refine ⟨0, Nat.zero_add _, { rel := ⟨α1, pre_refl _, by simpa using R5.ext (s' := { s5 with heap := h' }) hk' rfl rfl, NI, NL, NS, #[], c', hS', .nil⟩, ne := ⟨hIL, Nat.ne_of_lt hI5, Nat.ne_of_lt hL5', Nat.ne_of_gt hI4, (by rw [hsz4]; exact Nat.succ_ne_self _), Nat.ne_of_lt ha5⟩, it := ?_, nsL := ?_, gen := hgen5.keeps hk', gs := ⟨_, hg5, .inl ⟨rfl, rfl⟩⟩ }⟩
    · have := hk' _ _ hit5
      rw [hrs] at this
      simpa using this
    · obtain ⟨m, hm⟩ := hL5; exact ⟨m, hm.keeps hk'⟩
  · obtain ⟨i, hi, G⟩ := hP
    obtain ⟨gs, hgs, _⟩ := G.gs
    obtain ⟨α', pp, R', _⟩ := G.rel
    refine pyNext_genC K.hh (hlim.keeps R'.keepW) hroom G.gen hgs (hmk i s' (by omega) gs hgs G) fun e s₁ he => ?_
    cases e with
    | ret r => exact absurd he.1 (by omega)
    | susp v gd l k c p fs => exact ⟨he.2.1, v, rfl, wpC_then (gen_item K hN (by omega) G he) fun _ s'' G' => ⟨i + 1, by omega, G'⟩⟩
  · obtain ⟨i, hi, G⟩ := hP
    obtain rfl : i = N := by omega
    obtain ⟨gs, hgs, _⟩ := G.gs
    obtain ⟨α', pp, R', NI', NL', NS', acc, c', hS, rv⟩ := G.rel
    refine pyNext_genC K.hh (hlim.keeps R'.keepW) hroom G.gen hgs (hmk i s' (by omega) gs hgs G) fun e s₁ he => ?_
    cases e with
    | susp v gd l k c p fs => exact absurd he.1 (by omega)
    | ret r =>
      obtain ⟨_, rfl, h₁, hx, rfl⟩ := he
      refine ⟨rfl, fun h' hk' => ⟨rfl, acc, c', hk' _ _ (hx _ _ (Nat.ne_of_gt hI5) hS), ?_, ?_⟩⟩
      · have := rv.length
        simp at this
        rw [this, sizeLine_eq]; omega
      · have R6 := R'.extX (s' := { (({ s'.setGen s1.gens.size .running with heap := h₁ } : Shared).setGen s1.gens.size .finished) with heap := h' }) (fun b o hb e => hk' _ _ (hx b o hb e)) NI'.a NI'.o NI'.b NI'.w rfl
          (AllBare.set (gens := { s'.setGen s1.gens.size .running with heap := h₁ }) (AllBare.set R'.gens hgs rfl) (setGen_self hgs) rfl)
        obtain ⟨p7, R7, r7⟩ := R6.made K (tk := s'.toks) (o := { cls := .type "tuple", dict := none, data := .seq acc.toList.toArray, slots := #[] }) (.tup rv)
        have hlen : (H1 ++ List.replicate i (Mine.O.ba ns)).length = H1.length + i := by simp
        rw [hlen] at r7
        have e : acc.toList.toArray = acc := by simp
        rw [e] at R7
        exact hQ _ _ _ ((p1.trans pp).trans p7) R7 r7
end Mine

namespace Mine
open PySem PySem.W PyProof.Rows PySem.Calls

theorem owner_bai : Manifest.owners.lookup (String.ofList "bytearray_iterator".toList) = some Manifest.sig_bytearray_iterator := by kernel_rfl
theorem slot_ba_iter : Slot "bytearray" "__iter__" "bytearray.__iter__" :=
  .of (owner := "bytearray") (n := "__iter__") (by rw [typeLookup_type, builtinLookup_eq_fast]; kernel_rfl) (by decide +kernel) (by decide +kernel) (by decide +kernel)
    (by first | exact .inl (by decide +kernel) | exact .inr (by decide +kernel)) (by rw [isSubtype_type]; kernel_rfl)
theorem entry_ba_iter : entryFor table "bytearray.__iter__" = some Builtin.«bytearray.__iter__» := entryFor_of_tree (by kernel_rfl)
theorem args_ba_iter (a : Value) : argsOk "bytearray.__iter__" ⟨[a], []⟩ := by
  unfold argsOk; rw [signature?_of (id := "bytearray.__iter__") (n := "__iter__".toList.reverse) (o := ['y', 'a', 'r', 'r', 'a', 'e', 't', 'y', 'b']) (by kernel_rfl) owner_ba]; kernel_rfl
theorem slot_ba_len : Slot "bytearray" "__len__" "bytearray.__len__" :=
  .of (owner := "bytearray") (n := "__len__") (by rw [typeLookup_type, builtinLookup_eq_fast]; kernel_rfl) (by decide +kernel) (by decide +kernel) (by decide +kernel)
    (by first | exact .inl (by decide +kernel) | exact .inr (by decide +kernel)) (by rw [isSubtype_type]; kernel_rfl)
theorem slot_bai_next : Slot "bytearray_iterator" "__next__" "bytearray_iterator.__next__" :=
  .of (owner := "bytearray_iterator") (n := "__next__") (by rw [typeLookup_type, builtinLookup_eq_fast]; kernel_rfl) (by decide +kernel) (by decide +kernel) (by decide +kernel)
    (by first | exact .inl (by decide +kernel) | exact .inr (by decide +kernel)) (by rw [isSubtype_type]; kernel_rfl)
theorem entry_bai_next : entryFor table "bytearray_iterator.__next__" = some Builtin.«bytearray_iterator.__next__» := entryFor_of_tree (by kernel_rfl)
theorem args_bai_next (a : Value) : argsOk "bytearray_iterator.__next__" ⟨[a], []⟩ := by
  unfold argsOk; kernel_rfl

abbrev baiObj (l : Addr) (i : Nat) : Obj := { cls := .type "bytearray_iterator", data := .fields #[.ref l, .int i 0] }
section
variable {prog : Program} {w : World} {A : Around} {E : Value → Shared → Prop} {s : Shared}
theorem pyIter_ba {l : Addr} {b : Array UInt8} {Q : Value → Shared → Prop} (ho : s.heap.get? l = some (baObj b)) (h : Q (.ref s.heap.objs.size) { s with heap := s.heap.push (baiObj l 0) }) :
    wpAny (model prog w) A (pyIter (.ref l)) Q E s := by
  have hT : s.TypeIs (.ref l) "bytearray" := ⟨_, ho, rfl⟩
  refine wpAny_pyIter_slot hT slot_ba_iter (wpAny_call_entry slot_ba_iter hT entry_ba_iter ?_ (args_ba_iter _))
  show wpAny _ _ (do ret (← newFields "bytearray_iterator" [.ref l, rawInt 0])) _ _ s
  exact wpAny_bind (wpAny_newObj_type (wpAny_pure ⟨_, rfl, "bytearray_iterator", _, ⟨_, Heap.get?_push_size _ rfl, rfl⟩, slot_bai_next.lookup, h⟩))
theorem next_ba_item {it l : Addr} {i : Nat} {b : Array UInt8} {x : UInt8} {Q : Option Value → Shared → Prop} (hit : s.heap.get? it = some (baiObj l i)) (hl : s.heap.get? l = some (baObj b)) (hx : b[i]? = some x)
    (hQ : ∀ h', h'.get? it = some (baiObj l (i + 1)) → Heap.SameBut it s.heap h' → Q (some (.int x.toNat s.toks)) { s with heap := h', toks := s.toks + 1 }) :
    wpAny (model prog w) A (pyNext (.ref it)) Q E s := by
  have hT : s.TypeIs (.ref it) "bytearray_iterator" := ⟨_, hit, rfl⟩
  unfold pyNext
  refine wpAny_bind (wpAny_attempt (wpAny_callSpecial?_slot (name := Str.ofString "__next__") hT slot_bai_next
    (wpAny_call_entry slot_bai_next hT entry_bai_next ?_ (args_bai_next _))))
  show wpAny _ _ (field (.ref it) 0 >>= _) _ _ s
  refine wpAny_bind (wpAny_field hit rfl (x := .ref l) rfl ?_)
  show wpAny _ _ (load l >>= _) _ _ s
  refine wpAny_bind (wpAny_load hl ?_)
  show wpAny _ _ (field (.ref it) 1 >>= _) _ _ s
  refine wpAny_bind (wpAny_field hit rfl (x := .int i 0) rfl ?_)
  dsimp only
  simp only [Int.toNat_natCast, hx]
  refine wpAny_bind (wpAny_setField hit rfl (by simp) ?_)
  refine wpAny_bind (wpAny_mkInt (wpAny_pure ⟨_, rfl, wpAny_pure (hQ _ ?_ (Heap.SameBut.update ..))⟩))
  rw [Heap.get?_update_self _ hit rfl]
  simp [baiObj, Obj.mapFields, rawInt]
theorem next_ba_end {it l : Addr} {i : Nat} {b : Array UInt8} {Q : Option Value → Shared → Prop} (hh : A.handled = none) (hit : s.heap.get? it = some (baiObj l i)) (hl : s.heap.get? l = some (baObj b)) (hx : b[i]? = none)
    (hQ : ∀ h', Heap.ExtBut it s.heap h' → Q none { s with heap := h' }) :
    wpAny (model prog w) A (pyNext (.ref it)) Q E s := by
  have hT : s.TypeIs (.ref it) "bytearray_iterator" := ⟨_, hit, rfl⟩
  unfold pyNext
  refine wpAny_bind (wpAny_attempt (wpAny_callSpecial?_slot (name := Str.ofString "__next__") hT slot_bai_next
    (wpAny_call_entry slot_bai_next hT entry_bai_next ?_ (args_bai_next _))))
  show wpAny _ _ (field (.ref it) 0 >>= _) _ _ s
  refine wpAny_bind (wpAny_field hit rfl (x := .ref l) rfl ?_)
  show wpAny _ _ (load l >>= _) _ _ s
  refine wpAny_bind (wpAny_load hl ?_)
  show wpAny _ _ (field (.ref it) 1 >>= _) _ _ s
  refine wpAny_bind (wpAny_field hit rfl (x := .int i 0) rfl ?_)
  dsimp only
  simp only [Int.toNat_natCast, hx]
  refine wpAny_bind (wpAny_rule (wpAny_bind (wpAny_setField hit rfl (by simp) ?_)))
  refine wpAny_bind (wpAny_letGo ?_)
  show wpAny _ _ (newExc (.type "StopIteration") [] >>= _) _ _ _
  refine wpAny_bind ?_
  simp only [newExc, newTuple]
  refine wpAny_bind (wpAny_newObj_type ?_ (by size_fits))
  refine wpAny_bind (m := firstArgMember _ _) (wpAny_of_eq (a := Value.none) (by first | rfl | (simp only [firstArgMember]; rfl)) ?_)
  refine wpAny_newObj_type ?_ (by size_fits)
  simp only [raiseNew]
  refine wpAny_bind (wpAny_handled ?_)
  rw [show A.in1.handled = none from hh]
  refine wpAny_bind (wpAny_pure (wpAny_throw ?_))
  refine wpAny_bind (wpAny_isInstance (T := "StopIteration") (b := true) ⟨_, Heap.get?_push_size _ rfl, rfl⟩ isSubtype_stop ?_)
  refine wpAny_pure (hQ _ fun b o hb e => Heap.get?_push_of_some _ (Heap.get?_push_of_some _ ((Heap.SameBut.update ..).extBut _ _ hb e)))

/-- numbers at their places -/
noncomputable def NatsAre (acc : List Value) (ns : List Nat) : Prop := acc.length = ns.length ∧ ∀ (j : Nat) n, ns[j]? = some n → ∃ t, acc[j]? = some (.int (n : Int) t)

theorem extend_loop_ba (hh : A.handled = none) {S I l : Addr} {b : Array UInt8} {res : Value} {R : Result → Shared → Prop} (hSI : S ≠ I) (hSl : S ≠ l) (hIl : I ≠ l) (hz : b.size ≤ sizeLine) :
    ∀ (n i : Nat) (s : Shared) (acc : Array Value) (c : Nat), b.size - i = n → i ≤ b.size → s.heap.get? I = some (baiObj l i) → s.heap.get? l = some (baObj b) →
      s.heap.get? S = some { cls := .type "list", dict := none, data := .seq acc c, slots := #[] } → NatsAre acc.toList ((b.toList.take i).map (·.toNat)) →
      (∀ h' tk acc' c', (∀ b o, b ≠ S → b ≠ I → s.heap.get? b = some o → h'.get? b = some o) → h'.get? S = some { cls := .type "list", dict := none, data := .seq acc' c', slots := #[] } →
        NatsAre acc'.toList (b.toList.map (·.toNat)) → R (.ok (.ret res)) { s with heap := h', toks := tk }) →
      codeAny (model prog w) A (.builtin "list.extend.loop" ⟨[.ref S, .ref I, res], []⟩) R s := by
  intro n
  induction n with
  | zero =>
    intro i s acc c hn hi hI hl hS hacc hR
    have hib : i = b.size := by omega
    subst hib
    refine codeAny_builtin F.entry_extend_loop ?_
    rw [Around.under_plainId F.plain_extend_loop _]
    show wpAny _ A.in1 (pyNext (.ref I) >>= _) _ _ s
    refine wpAny_bind (next_ba_end hh hI hl (by simp) fun h' hx => ?_)
    refine wpAny_pure (hR h' s.toks acc c (fun a o _ h2 e => hx a o h2 e) (hx _ _ hSI hS) ?_)
    rw [List.take_of_length_le (by simp)] at hacc
    exact hacc
  | succ n ih =>
    intro i s acc c hn hi hI hl hS hacc hR
    have hlt : i < b.size := by omega
    refine codeAny_builtin F.entry_extend_loop ?_
    rw [Around.under_plainId F.plain_extend_loop _]
    show wpAny _ A.in1 (pyNext (.ref I) >>= _) _ _ s
    have hx : b[i]? = some b[i] := Array.getElem?_eq_getElem hlt
    refine wpAny_bind (next_ba_item hI hl hx fun h' hI' hs' => ?_)
    have hS' := (hs'.2 S hSI).trans hS
    have hsz : acc.size = i := by have := hacc.1; simp at this; omega
    show wpAny _ A.in1 (updateSeq S (·.push (.int b[i].toNat s.toks)) >>= _) _ _ _
    refine wpAny_bind (wpAny_updateSeq hS' rfl ?_ (by rw [hsz]; omega) (by rw [Array.size_push, hsz]; omega))
    have oth : ∀ a o, a ≠ S → h'.get? a = some o → (h'.update S (Obj.mapSeq (·.push (.int b[i].toNat s.toks)))).get? a = some o := fun a o ha e => (Heap.get?_update_other _ _ (Ne.symm ha)).trans e
    refine wpAny_pure ⟨plainId_quiet F.plain_extend_loop _, ih (i + 1) _ (acc.push (.int b[i].toNat s.toks)) _ (by omega) hlt (oth _ _ (Ne.symm hSI) hI') (oth _ _ (Ne.symm hSl) ((hs'.2 l (Ne.symm hIl)).trans hl)) (Heap.get?_update_self _ hS' rfl) ?_ fun h'' tk acc' c' hk hS'' hacc' => ?_⟩
    · refine ⟨by simp; omega, fun j m hm => ?_⟩
      by_cases hj : j < i
      · have : ((b.toList.take i).map (·.toNat))[j]? = some m := by
          rw [List.getElem?_map, List.getElem?_take_of_lt hj] 
          rw [List.getElem?_map, List.getElem?_take_of_lt (by omega)] at hm
          exact hm
        obtain ⟨t, ht⟩ := hacc.2 j m this
        refine ⟨t, ?_⟩
        rw [Array.toList_push, List.getElem?_append_left (by rw [Array.length_toList, hsz]; exact hj)]; exact ht
      · have hji : j = i := by
          have := (List.getElem?_eq_some_iff.mp hm).1
          simp at this
          omega
        subst hji
        rw [List.getElem?_map, List.getElem?_take_of_lt (by omega), Array.getElem?_toList, hx] at hm
        cases hm
        refine ⟨s.toks, ?_⟩
        rw [Array.toList_push, List.getElem?_append_right (by rw [Array.length_toList, hsz]; exact Nat.le_refl _), Array.length_toList, hsz, Nat.sub_self]; rfl
    · exact hR h'' tk acc' c' (fun a o h1 h2 e => hk a o h1 h2 (oth _ _ h1 ((hs'.2 a h2).trans e))) hS'' hacc'

theorem call_list_ba {l : Addr} {b : Array UInt8} {Q : Value → Shared → Prop} (hh : A.handled = none) (hl : s.heap.get? l = some (baObj b)) (hz : b.size ≤ sizeLine)
    (hQ : ∀ h' tk acc' c', (∀ b o, s.heap.get? b = some o → h'.get? b = some o) →
      h'.get? s.heap.objs.size = some { cls := .type "list", dict := none, data := .seq acc' c', slots := #[] } → NatsAre acc'.toList (b.toList.map (·.toNat)) → Q (.ref s.heap.objs.size) { s with heap := h', toks := tk }) :
    wpAny (model prog w) A (call (.type "list") [.ref l]) Q E s := by
  refine callType_codes (Q₁ := fun obj s₁ => obj = .ref s.heap.objs.size ∧ s₁ = { s with heap := s.heap.push { cls := .type "list", data := .seq #[] } }) F.called_list (F.typeCall_list_1 _) F.entry_list_init
    (code_list_new _ ⟨rfl, rfl⟩) fun obj s₁ h₁ => ?_
  obtain ⟨rfl, rfl⟩ := h₁
  have hS : (s.heap.push { cls := .type "list", data := .seq #[] }).get? s.heap.objs.size = some { cls := .type "list", data := .seq #[] } := Heap.get?_push_size _ rfl
  refine ⟨⟨_, hS, rfl⟩, F.args_list_init_2 _ _, ?_⟩
  have hl1 : (s.heap.push { cls := .type "list", data := .seq #[] }).get? l = some (baObj b) := Heap.get?_push_of_some _ hl
  have hSl : s.heap.objs.size ≠ l := Nat.ne_of_gt (Heap.lt_size hl)
  generalize hSe : s.heap.objs.size = S at *
  show wpAny _ _ (do let old ← Builtin.List.listItems (.ref S); Builtin.List.listUpdate (.ref S) (fun _ => #[]); letGo old.toList.reverse; Builtin.List.listExtendWith (.ref S) (.ref l) .none) _ _ _
  refine wpAny_bind ?_
  unfold Builtin.List.listItems
  refine wpAny_bind (wpAny_seqItems hS rfl (wpAny_pure ?_))
  show wpAny _ _ (updateSeq S (fun _ => #[]) >>= fun _ => letGo (#[] : Array Value).toList.reverse >>= fun _ => Builtin.List.listExtendWith (.ref S) (.ref l) .none) _ _ _
  refine wpAny_bind (wpAny_updateSeq hS rfl ?_)
  have hS₂ := Heap.get?_update_self (Obj.mapSeq (fun _ => (#[] : Array Value))) hS rfl
  have hl₂ := (Heap.get?_update_other (a := S) (b := l) (s.heap.push { cls := .type "list", data := .seq #[] }) (Obj.mapSeq (fun _ => (#[] : Array Value))) hSl).trans hl1
  refine wpAny_bind (wpAny_letGo ?_)
  unfold Builtin.List.listExtendWith
  refine wpAny_bind (wpAny_typeOf (T := "bytearray") ⟨_, hl₂, rfl⟩ ?_)
  have h1 : Builtin.List.listSameRef (.ref S) (.ref l) = false := by simp [Builtin.List.listSameRef, hSl]
  have h2 : (Value.type "bytearray" == Value.type "list") = false := by decide
  have h3 : (Value.type "bytearray" == Value.type "tuple") = false := by decide
  simp only [h1, h2, h3, Bool.or_false, Bool.false_eq_true, if_false]
  refine wpAny_bind (pyIter_ba hl₂ ?_)
  refine wpAny_bind (wpAny_holding ?_)
  unfold Builtin.List.listLengthHint
  have hl₃ := Heap.get?_push_of_some (baiObj l 0) hl₂
  refine wpAny_bind (wpAny_specialOf (T := "bytearray") ⟨_, hl₃, rfl⟩ slot_ba_len.lookup ?_)
  wp_delta
  refine wpAny_bind (wpAny_isInstance (T := "bytearray") (b := true) ⟨_, hl₃, rfl⟩ sub_ba_self ?_)
  show wpAny _ _ (typeOf (Value.ref l) >>= _) _ _ _
  refine wpAny_bind (wpAny_typeOf (T := "bytearray") ⟨_, hl₃, rfl⟩ ?_)
  refine wpAny_pure ?_
  rw [if_neg (by decide)]
  have hSlt : S < ((s.heap.push { cls := .type "list", data := .seq #[] }).update S (Obj.mapSeq (fun _ => (#[] : Array Value)))).objs.size := Heap.lt_size hS₂
  have hllt := Heap.lt_size hl₂
  refine wpAny_pure ⟨plainId_quiet F.plain_extend_loop _, extend_loop_ba (A := A.in1) hh (Nat.ne_of_lt hSlt) hSl (Nat.ne_of_gt hllt) hz b.size 0 _ #[] _ rfl (Nat.zero_le _) (Heap.get?_push_size _ rfl) hl₃ (Heap.get?_push_of_some _ hS₂) ⟨rfl, fun j m h => by simp at h⟩ fun h' tk acc' c' hk hS' hacc => ?_⟩
  refine ⟨rfl, hQ h' tk acc' c' (fun a o e => ?_) hS' hacc⟩
  have ha : a < S := hSe ▸ Heap.lt_size e
  exact hk a o (Nat.ne_of_lt ha) (Nat.ne_of_lt (Nat.lt_trans ha hSlt)) (Heap.get?_push_of_some _ ((Heap.get?_update_other _ _ (Nat.ne_of_gt ha)).trans (Heap.get?_push_of_some _ e)))
end

variable {C : Cx} {B : Base} {α : List Addr} {loc : Loc} {H : Hp} {s : Shared}
theorem NatsAre.vrs : ∀ {ns : List Nat} {acc : List Value}, NatsAre acc ns → VRs α (ns.map fun n : Nat => V.int (n : Int)) acc
  | [], [], _ => .nil
  | [], a :: r, h => by have := h.1; simp at this
  | n :: ns, [], h => by have := h.1; simp at this
  | n :: ns, a :: r, h => by
    obtain ⟨t, ht⟩ := h.2 0 n rfl
    have ht' : a = .int (n : Int) t := by simpa using ht
    subst ht'
    exact .cons (.int _ _) (NatsAre.vrs ⟨by have := h.1; simpa using this, fun j m hm => by simpa using h.2 (j + 1) m (by simpa using hm)⟩)

noncomputable def listBaF : Fn := fun vs H => match vs with
  | [.ref k] => match H[k]? with
    | some (.ba ns) => if ns.length < 1000000 then some (.ref H.length, H ++ [.list (ns.map fun n : Nat => V.int (n : Int))]) else none
    | _ => none
  | _ => none
theorem call_listBa (K : COk C) : CallOk C (.type "list") listBaF := by
  intro B α loc H s vs v H' ws Q E R h hv hQ
  unfold listBaF at h
  split at h
  · rename_i k
    obtain ⟨va, rfl, ha⟩ := hv.one
    split at h
    · rename_i ns hk
      split at h
      · rename_i hl
        cases h
        obtain ⟨a, b, rfl, hal, ho, rb⟩ := R.baAt hk ha
        have hsz : b.size ≤ sizeLine := by
          have : ns.length = b.size := by rw [← rb]; simp
          rw [sizeLine_eq]; omega
        refine wpC_of (call_list_ba K.hh ho hsz fun h' tk acc c hk' hS hacc => ?_)
        rw [rb] at hacc
        refine hQ (α ++ [s.heap.objs.size]) _ _ (prefix_snoc _ _) (R.alloc K (s' := { s with heap := h', toks := tk }) hk' rfl rfl hS (Nat.le_refl _) ?_) ?_
        · have := OR.list (α := α) (n := c) (hacc.vrs (α := α))
          simpa using this
        · exact .ref _ _ (by rw [← R.len, List.getElem?_append_right (Nat.le_refl _), Nat.sub_self]; rfl)
      · cases h
    · cases h
  · cases h
end Mine

namespace Mine
open PySem PySem.W PyProof.Rows PySem.Calls

variable {C : Cx} {B : Base} {α : List Addr} {loc : Loc} {H : Hp} {s : Shared}

theorem Rel.extXs (R : Rel C B α loc H s) {s' : Shared} {P : Addr → Prop} (hk : ∀ b o, ¬ P b → s.heap.get? b = some o → s'.heap.get? b = some o) (hN : ∀ I, P I → Nobody C B α I)
    (ho : s'.os = s.os) (hg : AllBare s'.gens) : Rel C B α loc H s' where
  len := R.len
  nd := R.nd
  obj := fun k mo e => let ⟨a, o, h1, h2, h3⟩ := R.obj k mo e; ⟨a, o, h1, hk _ _ (fun q => (hN _ q).a (List.mem_of_getElem? h1)) h2, h3⟩
  keep := fun b o e => ⟨hk _ _ (fun q => by rw [(hN _ q).b] at e; cases e) (R.keep b o e).1, (R.keep b o e).2⟩
  keepW := fun b o e => hk _ _ (fun q => by rw [(hN _ q).w] at e; cases e) (R.keepW b o e)
  lo := R.lo
  nf := R.nf
  fz := R.fz
  offL := R.offL
  offC := R.offC
  ns := let ⟨m, h1, h2⟩ := R.ns; ⟨m, h1.at' fun o e => hk _ o (fun q => (hN _ q).o (.inl rfl)) e, h2⟩
  cl := fun x c e => let ⟨ov, ⟨oc, h1, h1'⟩, h2⟩ := R.cl x c e; ⟨ov, ⟨oc, hk _ _ (fun q => (hN _ q).o (.inr ⟨x, e⟩)) h1, h1'⟩, h2⟩
  os := ho.trans R.os
  gens := hg

/-- an object that stands already is tracked from now on -/
theorem Rel.track (R : Rel C B α loc H s) {a : Addr} {mo : O} {o : Obj} (N : Nobody C B α a) (hW : C.W.objs.size ≤ a) (ha : s.heap.get? a = some o) (hr : OR α mo o) : Rel C B (α ++ [a]) loc (H ++ [mo]) s := by
  have hdrop : (α ++ [a]).drop C.nf = α.drop C.nf ++ [a] := List.drop_append_of_le_length R.nf
  refine { len := by simp [R.len], nd := ?_, obj := ?_, keep := ?_, keepW := R.keepW, lo := ?_, nf := by rw [List.length_append]; exact Nat.le_trans R.nf (Nat.le_add_right _ _), fz := R.fz.trans (prefix_snoc _ _), offL := ?_, offC := ?_, ns := ?_, cl := ?_, os := R.os, gens := R.gens }
  · rw [List.nodup_append]
    exact ⟨R.nd, by simp, fun x hx y hy => by simp at hy; subst hy; exact fun q => N.a (q ▸ hx)⟩
  · intro k mo' e
    by_cases hkl : k < H.length
    · rw [List.getElem?_append_left hkl] at e
      obtain ⟨b, o', h1, h2, h3⟩ := R.obj k mo' e
      exact ⟨b, o', by rw [List.getElem?_append_left (by rw [R.len]; exact hkl)]; exact h1, h2, h3.mono (prefix_snoc _ _)⟩
    · rw [List.getElem?_append_right (Nat.le_of_not_lt hkl)] at e
      have hk0 : k - H.length = 0 := by
        cases hq : k - H.length with
        | zero => rfl
        | succ n => rw [hq] at e; simp at e
      rw [hk0] at e; simp at e; subst e
      refine ⟨a, o, ?_, ha, hr.mono (prefix_snoc _ _)⟩
      rw [List.getElem?_append_right (by rw [R.len]; exact Nat.le_of_not_lt hkl), R.len, hk0]; rfl
  · intro b o' e
    refine ⟨(R.keep b o' e).1, fun hm => ?_, (R.keep b o' e).2.2⟩
    rcases List.mem_append.mp hm with h | h
    · exact (R.keep b o' e).2.1 h
    · simp at h; subst h; rw [N.b] at e; cases e
  · intro b hb
    rw [hdrop] at hb
    rcases List.mem_append.mp hb with h | h
    · exact R.lo b h
    · simp at h; subst h; exact hW
  · intro hm
    rcases List.mem_append.mp hm with h | h
    · exact R.offL h
    · simp at h; exact N.o (.inl h.symm)
  · intro x c e hm
    rcases List.mem_append.mp hm with h | h
    · exact R.offC x c e h
    · simp at h; subst h; exact N.o (.inr ⟨x, e⟩)
  · obtain ⟨m, h1, h2⟩ := R.ns
    exact ⟨m, h1, fun i x v e1 e2 e3 => let ⟨v', q1, q2⟩ := h2 i x v e1 e2 e3; ⟨v', q1, q2.mono (prefix_snoc _ _)⟩⟩
  · intro x c e
    obtain ⟨ov, h1, h2⟩ := R.cl x c e
    exact ⟨ov, h1, fun i v e1 e2 => let ⟨v', q1, q2⟩ := h2 i v e1 e2; ⟨v', q1, q2.mono (prefix_snoc _ _)⟩⟩

noncomputable def zipLoop (asg : V → Loc → Hp → Option Loc) (body : SF) (k1 k2 : Nat) : Nat → Nat → Loc → Hp → Option (Fl × Loc × Hp)
  | n, i, loc, H => match H[k1]? with
    | some (.list xs) => match H[k2]? with
      | some (.list ys) => match xs[i]? with
        | some x => match ys[i]? with
          | some y => match n with
            | 0 => none
            | n + 1 => match asg (.ref H.length) loc (H ++ [.tup [x, y]]) with
              | some loc1 => match body loc1 (H ++ [.tup [x, y]]) with
                | some (.next, loc2, H2) => zipLoop asg body k1 k2 n (i + 1) loc2 H2
                | r => r
              | none => none
          | none => some (.next, loc, H)
        | none => some (.next, loc, H)
      | _ => none
    | _ => none

structure ZipAt (C : Cx) (B : Base) (α : List Addr) (z TI TO i1 i2 l1 l2 k1 k2 : Nat) (i : Nat) (s : Shared) : Prop where
  D : ZipApart z TI TO i1 i2 l1 l2
  hz : IsZip s.heap z TI TO .none
  hTI : IsPair s.heap TI (.ref i1) (.ref i2)
  hTO : ∃ a b, IsPair s.heap TO a b
  h1 : s.heap.IsListIter i1 l1 i
  h2 : s.heap.IsListIter i2 l2 i
  nz : Nobody C B α z
  nTI : Nobody C B α TI
  nTO : Nobody C B α TO
  n1 : Nobody C B α i1
  n2 : Nobody C B α i2
  a1 : α[k1]? = some l1
  a2 : α[k2]? = some l2

theorem Nobody.snoc' {b d : Addr} (N : Nobody C B α b) (h : b ≠ d) : Nobody C B (α ++ [d]) b :=
  ⟨fun hm => by
    rcases List.mem_append.mp hm with q | q
    · exact N.a q
    · simp at q; exact h q, N.o, N.b, N.w⟩

theorem zip_ok (K : COk C) {elts : List Expr} {x1} {tpos : Pos} {body : List Stmt} {asg f} {z TI TO i1 i2 l1 l2 k1 k2 : Nat} (hA : SimA C (.Tuple elts x1 tpos) asg) (hb : SimSs C body f) : ∀ (n i : Nat) {B α loc H s r loc' H'} {Q : Flow → Shared → Prop}, Rel C B α loc H s →
    ZipAt C B α z TI TO i1 i2 l1 l2 k1 k2 i s → zipLoop asg f k1 k2 n i loc H = some (r, loc', H') →
    (∀ α' r' s', α <+: α' → Rel C B α' loc' H' s' → FR α' r r' → Q r' s') → codeC (model C.prog C.w) C.A (.forLoop (.Tuple elts x1 tpos) (.ref z) body [] C.env) (flowPost Q) s := by
  intro n
  induction n with
  | zero =>
    intro i B α loc H s r loc' H' Q R Z h hQ
    unfold zipLoop at h
    split at h
    case h_2 => cases h
    rename_i xs hx
    split at h
    case h_2 => cases h
    rename_i ys hy
    obtain ⟨_, us, n1, e1, _, ho1, rv1⟩ := R.listAt hx (.ref _ _ Z.a1)
    obtain ⟨_, ws, n2, e2, _, ho2, rv2⟩ := R.listAt hy (.ref _ _ Z.a2)
    cases e1; cases e2
    have fin : (us.toArray[i]? = none ∨ ws.toArray[i]? = none) → r = .next → loc' = loc → H' = H → codeC (model C.prog C.w) C.A (.forLoop (.Tuple elts x1 tpos) (.ref z) body [] C.env) (flowPost Q) s := by
      rintro hend rfl rfl rfl
      obtain ⟨a, b, hTO⟩ := Z.hTO
      refine codeC_forTurn (wpC_of (wpAny_pyNext_zip_end K.hh Z.D Z.hz Z.hTI hTO Z.h1 Z.h2 ⟨_, ho1, rfl, n1, rfl⟩ ⟨_, ho2, rfl, n2, rfl⟩ hend fun h' hk => ?_))
      refine hQ _ _ _ (pre_refl _) (R.extXs (P := fun c => c = z ∨ c = TO ∨ c = i1 ∨ c = i2) (fun b o hP e => hk b o (fun q => hP (.inl q)) (fun q => hP (.inr (.inl q))) (fun q => hP (.inr (.inr (.inl q)))) (fun q => hP (.inr (.inr (.inr q)))) e) ?_ rfl R.gens) .next
      rintro I (rfl | rfl | rfl | rfl)
      · exact Z.nz
      · exact Z.nTO
      · exact Z.n1
      · exact Z.n2
    split at h
    · split at h
      · cases h
      · rename_i ey
        cases h
        exact fin (.inr (by rw [List.getElem?_toArray, List.getElem?_eq_none_iff, rv2.length]; exact List.getElem?_eq_none_iff.mp ey)) rfl rfl rfl
    · rename_i ex
      cases h
      exact fin (.inl (by rw [List.getElem?_toArray, List.getElem?_eq_none_iff, rv1.length]; exact List.getElem?_eq_none_iff.mp ex)) rfl rfl rfl
  | succ n ih =>
    intro i B α loc H s r loc' H' Q R Z h hQ
    unfold zipLoop at h
    split at h
    case h_2 => cases h
    rename_i xs hx
    split at h
    case h_2 => cases h
    rename_i ys hy
    obtain ⟨_, us, n1, e1, _, ho1, rv1⟩ := R.listAt hx (.ref _ _ Z.a1)
    obtain ⟨_, ws, n2, e2, _, ho2, rv2⟩ := R.listAt hy (.ref _ _ Z.a2)
    cases e1; cases e2
    have hN : ∀ I, (I = z ∨ I = TO ∨ I = i1 ∨ I = i2) → Nobody C B α I := by
      rintro I (rfl | rfl | rfl | rfl)
      · exact Z.nz
      · exact Z.nTO
      · exact Z.n1
      · exact Z.n2
    have fin : (us.toArray[i]? = none ∨ ws.toArray[i]? = none) → r = .next → loc' = loc → H' = H → codeC (model C.prog C.w) C.A (.forLoop (.Tuple elts x1 tpos) (.ref z) body [] C.env) (flowPost Q) s := by
      rintro hend rfl rfl rfl
      obtain ⟨a, b, hTO⟩ := Z.hTO
      refine codeC_forTurn (wpC_of (wpAny_pyNext_zip_end K.hh Z.D Z.hz Z.hTI hTO Z.h1 Z.h2 ⟨_, ho1, rfl, n1, rfl⟩ ⟨_, ho2, rfl, n2, rfl⟩ hend fun h' hk => ?_))
      exact hQ _ _ _ (pre_refl _) (R.extXs (P := fun c => c = z ∨ c = TO ∨ c = i1 ∨ c = i2) (fun b o hP e => hk b o (fun q => hP (.inl q)) (fun q => hP (.inr (.inl q))) (fun q => hP (.inr (.inr (.inl q)))) (fun q => hP (.inr (.inr (.inr q)))) e) hN rfl R.gens) .next
    split at h
    · rename_i x ex
      split at h
      · rename_i y ey
        obtain ⟨x', hx', rx⟩ := rv1.get ex
        obtain ⟨y', hy', ry⟩ := rv2.get ey
        dsimp only at h
        split at h
        · rename_i loc1 e1
          obtain ⟨a, b, hTO⟩ := Z.hTO
          refine codeC_forTurn (wpC_of (wpAny_pyNext_zip_item Z.D Z.hz Z.hTI hTO Z.h1 Z.h2 ⟨_, ho1, rfl, n1, rfl⟩ ⟨_, ho2, rfl, n2, rfl⟩ (by rw [List.getElem?_toArray]; exact hx') (by rw [List.getElem?_toArray]; exact hy') fun h' g1 g2 g3 g4 g5 g6 hk => ?_))
          have R1 := R.extXs (s' := { s with heap := h' }) (P := fun c => c = z ∨ c = TO ∨ c = i1 ∨ c = i2) (fun b o hP e => hk b o (fun q => hP (.inl q)) (fun q => hP (.inr (.inl q))) (fun q => hP (.inr (.inr (.inl q)))) (fun q => hP (.inr (.inr (.inr q)))) e) hN rfl R.gens
          refine wpC_of (wpAny_letOwnedTupleGo_zip g1 fun h'' g1' hs'' => ?_)
          have R2 := R1.extX (s' := { s with heap := h'' }) (fun b o hb e => (hs''.2 b hb).trans e) Z.nz.a Z.nz.o Z.nz.b Z.nz.w rfl R1.gens
          have NT := R.nobody
          have hlt : ∀ {c o}, s.heap.get? c = some o → c ≠ s.heap.objs.size := fun e => Nat.ne_of_lt (Heap.lt_size e)
          have hzT : z ≠ s.heap.objs.size := hlt Z.hz
          have hTIT : TI ≠ s.heap.objs.size := hlt Z.hTI
          have hTOT : TO ≠ s.heap.objs.size := hlt hTO
          have h1T : i1 ≠ s.heap.objs.size := by obtain ⟨_, e, _⟩ := Z.h1; exact hlt e
          have h2T : i2 ≠ s.heap.objs.size := by obtain ⟨_, e, _⟩ := Z.h2; exact hlt e
          have hW : C.W.objs.size ≤ s.heap.objs.size := by
            obtain ⟨m, ⟨oL, _, _, hL, _⟩, _⟩ := R.ns
            exact Nat.le_trans K.aboveW (Nat.le_of_lt (Heap.lt_size hL))
          have hp : ({ s with heap := h'' } : Shared).heap.get? s.heap.objs.size = some { cls := .type "tuple", dict := none, data := .seq [x', y'].toArray, slots := #[] } := (hs''.2 _ (Ne.symm hzT)).trans g5
          have R3 := R2.track (mo := .tup [x, y]) NT hW hp (.tup (.cons rx (.cons ry .nil)))
          have hl : α.length = H.length := R.len
          refine wpC_of (hA R3.rebase (.ref H.length s.heap.objs.size (by rw [← hl, List.getElem?_append_right (Nat.le_refl _), Nat.sub_self]; rfl)) e1 fun s2 R4 => ?_)
          have NN : ∀ {c}, Nobody C B α c → c ≠ s.heap.objs.size → Nobody C B (α ++ [s.heap.objs.size]) c := fun N h => N.snoc' h
          have kz : restOf C (α ++ [s.heap.objs.size]) { s with heap := h'' } z = some _ := restOf_some.mpr ⟨g1', (NN Z.nz hzT).a, Z.nz.o⟩
          have hTI'' : IsPair h'' TI (.ref i1) (.ref i2) := (hs''.2 TI Z.D.TIz).trans (hk _ _ Z.D.TIz Z.D.TITO Z.D.TIi1 Z.D.TIi2 Z.hTI)
          have kTI : restOf C (α ++ [s.heap.objs.size]) { s with heap := h'' } TI = some _ := restOf_some.mpr ⟨hTI'', (NN Z.nTI hTIT).a, Z.nTI.o⟩
          have kTO : restOf C (α ++ [s.heap.objs.size]) { s with heap := h'' } TO = some _ := restOf_some.mpr ⟨(hs''.2 TO Z.D.TOz).trans g2, (NN Z.nTO hTOT).a, Z.nTO.o⟩
          obtain ⟨oi1, hoi1, hci1, hdi1⟩ := g3
          obtain ⟨oi2, hoi2, hci2, hdi2⟩ := g4
          have ki1 : restOf C (α ++ [s.heap.objs.size]) { s with heap := h'' } i1 = some oi1 := restOf_some.mpr ⟨(hs''.2 i1 Z.D.i1z).trans hoi1, (NN Z.n1 h1T).a, Z.n1.o⟩
          have ki2 : restOf C (α ++ [s.heap.objs.size]) { s with heap := h'' } i2 = some oi2 := restOf_some.mpr ⟨(hs''.2 i2 Z.D.i2z).trans hoi2, (NN Z.n2 h2T).a, Z.n2.o⟩
          split at h
          · rename_i loc2 H2 e2
            refine hb R4 e2 fun α2 r2 s3 p2 R5 f5 => ?_
            cases f5
            have R5B := Rel.back R3.toRest R5
            have q := fun {c o} (k : restOf C (α ++ [s.heap.objs.size]) { s with heap := h'' } c = some o) => R5.keep c o k
            refine ih (i + 1) R5B { D := Z.D, hz := (q kz).1, hTI := (q kTI).1, hTO := ⟨_, _, (q kTO).1⟩, h1 := ⟨oi1, (q ki1).1, hci1, hdi1⟩, h2 := ⟨oi2, (q ki2).1, hci2, hdi2⟩, nz := ⟨(q kz).2.1, Z.nz.o, Z.nz.b, Z.nz.w⟩, nTI := ⟨(q kTI).2.1, Z.nTI.o, Z.nTI.b, Z.nTI.w⟩, nTO := ⟨(q kTO).2.1, Z.nTO.o, Z.nTO.b, Z.nTO.w⟩, n1 := ⟨(q ki1).2.1, Z.n1.o, Z.n1.b, Z.n1.w⟩, n2 := ⟨(q ki2).2.1, Z.n2.o, Z.n2.b, Z.n2.w⟩, a1 := ?_, a2 := ?_ } h fun α' r' s' p' R' f' => hQ _ _ _ (((prefix_snoc _ _).trans p2).trans p') R' f'
            · obtain ⟨rr, hrr⟩ := (prefix_snoc α s.heap.objs.size).trans p2
              rw [← hrr, List.getElem?_append_left (List.getElem?_eq_some_iff.mp Z.a1).1]; exact Z.a1
            · obtain ⟨rr, hrr⟩ := (prefix_snoc α s.heap.objs.size).trans p2
              rw [← hrr, List.getElem?_append_left (List.getElem?_eq_some_iff.mp Z.a2).1]; exact Z.a2
          · rename_i q hne
            refine hb R4 h fun α2 r2 s3 p2 R5 f5 => ?_
            cases f5 with
            | next => exact absurd h (hne _ _)
            | ret x => exact hQ _ _ _ ((prefix_snoc _ _).trans p2) (Rel.back R3.toRest R5) (.ret x)
        · cases h
      · rename_i ey
        cases h
        exact fin (.inr (by rw [List.getElem?_toArray, List.getElem?_eq_none_iff, rv2.length]; exact List.getElem?_eq_none_iff.mp ey)) rfl rfl rfl
    · rename_i ex
      cases h
      exact fin (.inl (by rw [List.getElem?_toArray, List.getElem?_eq_none_iff, rv1.length]; exact List.getElem?_eq_none_iff.mp ex)) rfl rfl rfl

noncomputable def zipF (asg : V → Loc → Hp → Option Loc) (g : LF) (body : SF) : SF := fun loc H => match g loc H with
  | some ([.ref k1, .ref k2], H1) => match H1[k1]? with
    | some (.list xs) => match H1[k2]? with
      | some (.list _) => zipLoop asg body k1 k2 xs.length 0 loc H1
      | _ => none
    | _ => none
  | _ => none
theorem simS_forZip (K : COk C) {elts : List Expr} {x1} {tpos npos cpos pos : Pos} {e : Expr} {es : List Expr} {body : List Stmt} {asg g f} (hA : SimA C (.Tuple elts x1 tpos) asg) (hf : GlobIs C "zip" (· = .type "zip")) (hl : SimL C (e :: es) g) (hb : SimSs C body f)
    (hs : ∀ x, foldedSetIterable (.Call (.Name "zip" npos) (e :: es) [] cpos) C.env x = pure x)
    (he : ∀ env, starEach (e :: es) env = (false, eval e env) :: starEach es env) (hp : ∀ env, (backTo cpos (starEach es env)).any (·.1) = false)
    (hc : ∀ env, eval (.Call (.Name "zip" npos) (e :: es) [] cpos) env = (do callWith cpos (← eval (.Name "zip" npos) env) [] (backTo cpos (starEach (e :: es) env)) (backToKw cpos (keywordEach [] env)))) :
    SimS C (.For (.Tuple elts x1 tpos) (.Call (.Name "zip" npos) (e :: es) [] cpos) body [] pos) (zipF asg g f) := by
  intro B α loc H s r loc' H' Q E R h hQ
  unfold zipF at h
  split at h
  case h_2 => cases h
  rename_i k1 k2 H1 e1
  split at h
  case h_2 => cases h
  rename_i xs hx
  split at h
  case h_2 => cases h
  rename_i ys hy
  refine C_For ?_ hs
  refine C_Call (wpC_of (hf s _ E npos R.keepW fun v hv => ?_)) (hc _)
  subst hv
  have hl' := hl (pos := cpos) R e1 (E := E) (Q := fun ws s₁ => wpC (model C.prog C.w) C.A (call (.type "zip") ([] ++ ws) []) (fun x s₁ => wpC (model C.prog C.w) C.A (pyIter x) (fun it s₂ =>
      codeC (model C.prog C.w) C.A (.forLoop (.Tuple elts x1 tpos) it body [] C.env) (fun r s' => match r with | .ok f => Q f s' | .error _ => False) s₂) E s₁) E s₁) fun α1 ws s1 p1 R1 ra => ?_
  · rw [he] at hl' ⊢
    exact C_callWith_type (by show (false || (backTo cpos (starEach es C.env)).any (·.1)) = false; rw [hp]; rfl) (C_evalArgs hl')
  · obtain ⟨v1, v2, rfl, r1, r2⟩ := ra.two
    obtain ⟨l1, us, n1, rfl, ha1, ho1, rv1⟩ := R1.listAt hx r1
    obtain ⟨l2, ws, n2, rfl, ha2, ho2, rv2⟩ := R1.listAt hy r2
    have hl1 := Heap.lt_size ho1
    have hl2 := Heap.lt_size ho2
    refine wpC_of (call_zip_2 (xs := us.toArray) (ys := ws.toArray) ⟨_, ho1, rfl, n1, rfl⟩ ⟨_, ho2, rfl, n2, rfl⟩ fun h' g1 g2 g3 g4 g5 g6 hk => ?_)
    refine wpC_of (wpAny_pyIter_zip g1 ?_)
    have R2 := R1.ext (s' := { s1 with heap := h' }) hk rfl rfl
    have hnob : ∀ d, Nobody C B α1 (s1.heap.objs.size + d) := fun d => {
      a := fun hm => by
        obtain ⟨k, hk'⟩ := List.getElem?_of_mem hm
        have hkl : k < H1.length := R1.len ▸ (List.getElem?_eq_some_iff.mp hk').1
        obtain ⟨b, o', h1, h2, _⟩ := R1.obj k _ (List.getElem?_eq_getElem hkl)
        rw [hk'] at h1; cases h1
        exact Nat.lt_irrefl _ (Nat.lt_of_le_of_lt (Nat.le_add_right _ _) (Heap.lt_size h2))
      o := fun h => by
        rcases h with h | ⟨x, h⟩
        · obtain ⟨m, ⟨oL, _, _, hL, _⟩, _⟩ := R1.ns
          exact Nat.lt_irrefl _ (Nat.lt_of_le_of_lt (Nat.le_add_right _ _) (h ▸ Heap.lt_size hL))
        · obtain ⟨ov, ⟨oc, hc, _⟩, _⟩ := R1.cl x _ h
          exact Nat.lt_irrefl _ (Nat.lt_of_le_of_lt (Nat.le_add_right _ _) (Heap.lt_size hc))
      b := by
        cases e : B (s1.heap.objs.size + d) with
        | none => rfl
        | some o => exact (Nat.lt_irrefl _ (Nat.lt_of_le_of_lt (Nat.le_add_right _ _) (Heap.lt_size (R1.keep _ _ e).1))).elim
      w := by
        cases e : C.W.get? (s1.heap.objs.size + d) with
        | none => rfl
        | some o => exact (Nat.lt_irrefl _ (Nat.lt_of_le_of_lt (Nat.le_add_right _ _) (Heap.lt_size (R1.keepW _ _ e)))).elim }
    refine zip_ok K hA hb _ 0 R2 (l1 := l1) (l2 := l2) { D := ?_, hz := g1, hTI := g2, hTO := ⟨_, _, g3⟩, h1 := g4, h2 := g5, nz := hnob 4, nTI := hnob 2, nTO := hnob 3, n1 := hnob 0, n2 := hnob 1, a1 := ha1, a2 := ha2 } h fun α' r' s' p' R' f' => hQ _ _ _ (p1.trans p') R' f'
    have hl1' : @LT.lt Nat _ l1 s1.heap.objs.size := hl1
    have hl2' : @LT.lt Nat _ l2 s1.heap.objs.size := hl2
    constructor <;> (intro q; have q' : (_ : Nat) = _ := q; omega)
end Mine

namespace Mine
open PySem PySem.W PyProof.Rows PySem.Calls PySem.SeqAt

variable {C : Cx} {B : Base} {α : List Addr} {loc : Loc} {H : Hp} {s : Shared}

noncomputable def isInt : V → Bool
  | .int _ => true
  | _ => false
noncomputable def rowSame (H : Hp) : V → V → Bool
  | .ref i, .ref j => i != j && (match H[i]?, H[j]? with
    | some (.list xs), some (.list ys) => xs == ys && xs.all isInt
    | _, _ => false)
  | _, _ => false
noncomputable def rowsSame (H : Hp) : List V → List V → Bool
  | [], [] => true
  | a :: as, b :: bs => rowSame H a b && rowsSame H as bs
  | _, _ => false
noncomputable def eqLLF (f g : XF) : XF := fun loc H => match f loc H with
  | some (.ref i, H1) => match g loc H1 with
    | some (.ref j, H2) => match H2[i]? with
      | some (.list as) => match H2[j]? with
        | some (.list bs) => if rowsSame H2 as bs then some (.bool true, H2) else none
        | _ => none
      | _ => none
    | _ => none
  | _ => none

theorem rowsSame_get : ∀ {as bs : List V}, rowsSame H as bs = true → as.length = bs.length ∧ ∀ (j : Nat) a b, as[j]? = some a → bs[j]? = some b → rowSame H a b = true
  | [], [], _ => ⟨rfl, fun j a b h => by simp at h⟩
  | [], b :: bs, h => by simp [rowsSame] at h
  | a :: as, [], h => by simp [rowsSame] at h
  | a :: as, b :: bs, h => by
    simp only [rowsSame, Bool.and_eq_true] at h
    obtain ⟨h1, h2⟩ := rowsSame_get h.2
    refine ⟨by simp [h1], fun j x y hx hy => ?_⟩
    cases j with
    | zero => simp at hx hy; subst hx; subst hy; exact h.1
    | succ j => exact h2 j x y (by simpa using hx) (by simpa using hy)

theorem intsEq {A : Around} {s : Shared} {xs : List V} {us ws : List Value} (ha : xs.all isInt = true) (h1 : VRs α xs us) (h2 : VRs α xs ws) : ∀ j (q1 : j < us.toArray.size) (q2 : j < ws.toArray.size), EqAt A s us.toArray[j] ws.toArray[j] true := by
  intro j q1 q2
  have q1' : j < us.length := by simpa using q1
  have hl := h1.length
  have hx : xs[j]? = some (xs[j]'(by omega)) := List.getElem?_eq_getElem _
  obtain ⟨u, hu, ru⟩ := h1.get hx
  obtain ⟨w, hw, rw'⟩ := h2.get hx
  have hi : isInt (xs[j]'(by omega)) = true := List.all_eq_true.mp ha _ (List.getElem_mem _)
  generalize xs[j]'(by omega) = v at *
  cases v with
  | int i =>
    obtain ⟨t, rfl⟩ := ru.int_inv
    obtain ⟨t', rfl⟩ := rw'.int_inv
    have e1 : us.toArray[j] = .int i t := by
      have := List.getElem?_eq_some_iff.mp hu
      obtain ⟨_, e⟩ := this
      simpa using e
    have e2 : ws.toArray[j] = .int i t' := by
      have := List.getElem?_eq_some_iff.mp hw
      obtain ⟨_, e⟩ := this
      simpa using e
    rw [e1, e2]
    have := EqAt.int_int (A := A) (s := s) i t i t'
    rwa [beq_self_eq_true] at this
  | _ => cases hi

theorem sim_eqLL (K : COk C) {l r : Expr} {pos : Pos} {f g : XF} (hu : C.A.units + 2 < cLine) (h1 : SimE C l f) (h2 : SimE C r g) (hm : behindInMarks .Eq r = false) : SimE C (.Compare l [.Eq] [r] pos) (eqLLF f g) := by
  intro B α loc H s v H' Q E R h hQ
  unfold eqLLF at h
  split at h
  case h_2 => cases h
  rename_i i H1 e1
  split at h
  case h_2 => cases h
  rename_i j H2 e2
  split at h
  case h_2 => cases h
  rename_i as has
  split at h
  case h_2 => cases h
  rename_i bs hbs
  split at h
  case isFalse => cases h
  rename_i hs
  cases h
  refine C_Compare1 (h1 R e1 fun α1 va s1 p1 R1 ra => h2 R1 e2 fun α2 vb s2 p2 R2 rb => ?_) hm
  obtain ⟨a, us, n1, rfl, ha1, ho1, rv1⟩ := R2.listAt has (ra.mono p2)
  obtain ⟨b, ws, n2, rfl, ha2, ho2, rv2⟩ := R2.listAt hbs rb
  obtain ⟨hlen, hrows⟩ := rowsSame_get hs
  have hall : (List.range us.toArray.size).all (fun _ => true) = true := by simp
  refine wpC_of (eq_listAt (items := us.toArray) (items2 := ws.toArray) (e := fun _ => true) ⟨_, ho1, rfl, n1, rfl⟩ ⟨_, ho2, rfl, n2, rfl⟩ (by simp [rv1.length, rv2.length, hlen]) (by omega) (fun k q1 q2 => ?_) ?_)
  · have q1' : k < us.length := by simpa using q1
    have q2' : k < ws.length := by simpa using q2
    obtain ⟨x, hx, rx⟩ := rv1.get' (List.getElem?_eq_getElem q1')
    obtain ⟨y, hy, ry⟩ := rv2.get' (List.getElem?_eq_getElem q2')
    have hr := hrows k x y hx hy
    have e1 : us.toArray[k] = us[k] := by simp
    have e2 : ws.toArray[k] = ws[k] := by simp
    rw [e1, e2]
    cases x with
    | ref ix =>
      cases y with
      | ref iy =>
        simp only [rowSame, Bool.and_eq_true, bne_iff_ne] at hr
        obtain ⟨hne, hm'⟩ := hr
        split at hm'
        · rename_i xs ys hX hY
          simp only [Bool.and_eq_true, beq_iff_eq] at hm'
          obtain ⟨rfl, hints⟩ := hm'
          obtain ⟨la, us', m1, ea, hla, hoa, rva⟩ := R2.listAt hX rx
          obtain ⟨lb, ws', m2, eb, hlb, hob, rvb⟩ := R2.listAt hY ry
          rw [ea, eb]
          have hne' : la ≠ lb := fun q => hne ((List.getElem?_inj (List.getElem?_eq_some_iff.mp hla).1 R2.nd).mp (hla.trans (q ▸ hlb.symm)))
          have hall' : (List.range us'.toArray.size).all (fun _ => true) = true := by simp
          refine EqAt.of_refs hne' ?_
          have := RcAt.lists (A := C.A.in1) (s := s2) (items := us'.toArray) (items2 := ws'.toArray) (e := fun _ => true) ⟨_, hoa, rfl, m1, rfl⟩ ⟨_, hob, rfl, m2, rfl⟩ (by simp [rva.length, rvb.length]) (show C.A.in1.units < cLine by show C.A.units + 1 < cLine; omega) (intsEq hints rva rvb)
          rwa [hall'] at this
        · cases hm'
      | _ => simp [rowSame] at hr
    | _ => simp [rowSame] at hr
  · rw [hall]
    exact hQ _ _ _ (p1.trans p2) R2 (.bool _)
end Mine

namespace Mine
open _root_.PySem _root_.PySem.W PyProof.Rows _root_.PySem.Calls

variable {C : Cx} {B : Base} {α : List Addr} {loc : Loc} {H : Hp} {s : Shared}

/-- the def at an address of the fixed heap -/
noncomputable def fnAt (K : Frag) (k : Nat) : FuncData := match K.lookup k with
  | some o => (match o.data with
    | .func fd => fd
    | _ => default)
  | none => default
noncomputable def bodyOf (fd : FuncData) : List Stmt := match fd.body with
  | .stmts b => b
  | _ => []

noncomputable def refX (k : Nat) : XF := fun _ H => some (.ref k, H)
theorem sim_gref {x pos k} {a : Addr} (g : GlobIs C x (· = .ref a)) (hk : C.fz[k]? = some a) : SimE C (.Name x pos) (refX k) := by
  intro B α loc H s v H' Q E R h hQ
  cases h
  refine wpC_of (g s Q E pos R.keepW fun v hv => ?_)
  subst hv
  refine hQ _ _ _ (pre_refl _) R (.ref _ _ ?_)
  obtain ⟨r, hr⟩ := R.fz
  rw [← hr, List.getElem?_append_left (List.getElem?_eq_some_iff.mp hk).1]; exact hk

/-- what the module's names hold -/
structure Gl (W : Heap) (mg mb : Str → Option Value) : Prop where
  g : W.Ns mainGlobals mg
  b : W.Ns builtinsNs mb
  lim : W.NoLimit

theorem glob {mg mb} (G : Gl C.W mg mb) {x : Str} {v : Value} (hv : mg x = some v) (hg : C.env.globals = mainGlobals) (hk : C.env.scope.kind = .function) (hx : C.env.kindOf x = some .globalImplicit) (hd : (x == ("__debug__" : Str)) = false) : GlobIs C x (· = v) := by
  intro s Q E pos hW hQ
  refine Calls.Name_function_global hk hx (Calls.loadGlobal_global (mg := mg) ?_ hv (hQ v rfl)) hd
  rw [hg]; exact G.g.keeps hW
theorem built {mg mb} (G : Gl C.W mg mb) {x : Str} {v : Value} (hm : mg x = none) (hv : mb x = some v) (hg : C.env.globals = mainGlobals) (hb : C.env.builtins = builtinsNs) (hk : C.env.scope.kind = .function) (hx : C.env.kindOf x = some .globalImplicit) (hd : (x == ("__debug__" : Str)) = false) : GlobIs C x (· = v) := by
  intro s Q E pos hW hQ
  refine Calls.Name_function_global hk hx (Calls.loadGlobal_builtin (mg := mg) (mb := mb) ?_ hm ?_ hv (hQ v rfl)) hd
  · rw [hg]; exact G.g.keeps hW
  · rw [hb]; exact G.b.keeps hW
theorem GlobIs.int {x : Str} {i : Int} {t : Tok} (g : GlobIs C x (· = .int i t)) : GlobIs C x (fun v => ∃ t, v = .int i t) :=
  fun s Q E pos hW hQ => g s Q E pos hW fun v hv => hQ v ⟨t, hv⟩

noncomputable def isFnAt (K : Frag) (k : Nat) : Bool := match K.lookup k with
  | some o => (match o.data with
    | .func _ => true
    | _ => false)
  | none => false
noncomputable def codeOkAt (K : Frag) (fd : FuncData) : Bool := match fd.code with
  | .ref c => (match K.lookup c with
    | some o => (match o.data with
      | .fields (vs : Array Value) => (match vs[1]? with
        | some (Value.str q _) => q == fd.qualname
        | _ => false)
      | _ => false)
    | none => false)
  | _ => false
theorem mem_of_lookup' {K : Frag} {k : Nat} {o : Obj} (h : K.lookup k = some o) : (k, o) ∈ K := by
  induction K with
  | nil => cases h
  | cons p r ih =>
    obtain ⟨a, b⟩ := p
    simp only [List.lookup] at h
    split at h
    · rename_i e
      cases h
      obtain rfl : k = a := by simpa using e
      exact List.mem_cons_self
    · exact List.mem_cons_of_mem _ (ih h)

/-- a suite that is never reached -/
noncomputable def failS : SF := fun _ _ => none
theorem simS_fail {sts : List Stmt} : SimSs C sts failS := fun _ h => nomatch h

noncomputable def fdA (P : Params) (k : Nat) : FuncData := fnAt (MineH.heapK P) k

/-- what stands in the fixed heap, whatever the law does -/
structure Wd (W : Heap) (fz : List Addr) (nf : Nat) (P : Params) (mg mb : Str → Option Value) : Prop where
  gl : Gl W mg mb
  frag : ∀ p ∈ MineH.heapK P, W.get? p.1 = some p.2
  tab : W.get? 48 = none
  fz : ∃ scr, fz = [48, 15, 16, 17, 18, 19, 20, 21, 22, 23, 24, scr]
  nf : nf = 12
  bm : ∃ bm ob, mg "__builtins__" = some (.ref bm) ∧ bm ≠ builtinsNs ∧ W.get? bm = some ob ∧ ob.cls = .type "module" ∧ ob.dict = some builtinsNs ∧ ob.data = .plain
  m1 : mg "VERSION_M1" = some (.int (-3) 196)
  m2 : mg "VERSION_M2" = some (.int (-2) 193)
  m3 : mg "VERSION_M3" = some (.int (-1) 190)
  m4 : mg "VERSION_M4" = some (.int 0 187)
  fp : mg "_FINDER_PATTERN" = some (.ref 24)
  d1 : mg "add_finder_patterns" = some (.ref 31)
  d2 : mg "add_timing_pattern" = some (.ref 38)
  d3 : mg "add_codewords" = some (.ref 45)
  d4 : mg "make_matrix" = some (.ref 53)
  d5 : mg "_law_SIZES" = some (.ref 60)
  d6 : mg "_law_blank" = some (.ref 65)
  d7 : mg "_law_spots" = some (.ref 72)
  nb : ∀ x ∈ (["len", "range", "max", "min", "abs", "list", "tuple", "bytearray", "zip", "ValueError"] : List Str), mg x = none ∧ mb x = bootBuiltins x

theorem Wd.fn {W : Heap} {fz nf} {P mg mb} (X : Wd W fz nf P mg mb) {k : Nat} (h : isFnAt (MineH.heapK P) k = true) : ∃ o, W.get? k = some o ∧ o.data = .func (fdA P k) := by
  unfold isFnAt at h
  split at h
  · rename_i o e
    split at h
    · rename_i fd e2
      refine ⟨o, X.frag _ (mem_of_lookup' e), ?_⟩
      unfold fdA fnAt
      rw [e]
      dsimp only
      rw [e2]
    · cases h
  · cases h
theorem Wd.cd {W : Heap} {fz nf} {P mg mb} (X : Wd W fz nf P mg mb) {k : Nat} (h : codeOkAt (MineH.heapK P) (fdA P k) = true) : W.CodeRec (fdA P k).code (fdA P k).qualname := by
  unfold codeOkAt at h
  split at h
  · rename_i c ec
    split at h
    · rename_i o e
      split at h
      · rename_i vs ed
        split at h
        · rename_i q t eq
          have hq : q = (fdA P k).qualname := by simpa using h
          exact ⟨c, o, vs, t, ec, X.frag _ (mem_of_lookup' e), ed, hq ▸ eq⟩
        · cases h
      · cases h
    · cases h
  · cases h

theorem Wd.built {C : Cx} {P mg mb} (X : Wd C.W C.fz C.nf P mg mb) {x : Str} {v : Value} (hm : x ∈ (["len", "range", "max", "min", "abs", "list", "tuple", "bytearray", "zip", "ValueError"] : List Str)) (hv : bootBuiltins x = some v)
    (hg : C.env.globals = mainGlobals) (hb : C.env.builtins = builtinsNs) (hk : C.env.scope.kind = .function) (hx : C.env.kindOf x = some .globalImplicit) (hd : (x == ("__debug__" : Str)) = false) : GlobIs C x (· = v) :=
  Mine.built X.gl (X.nb x hm).1 ((X.nb x hm).2.trans hv) hg hb hk hx hd

theorem compOk0 {scope : Scope} {x : Str} (clos : closureFor scope C.env = pure []) (kind : scope.kind = .function) (nocell : ∀ y ∈ scope.names, y.2 ≠ .cell) (names : ∀ y ∈ scope.names, y.2 = .local → scope.names.lookup y.1 = some .local)
    (hx : scope.names.lookup x = some .local) : CompOk C scope [] x [] [] where
  clos := clos
  kind := kind
  nocell := nocell
  names := names
  hx := hx
  xcl := rfl
  nd := by simp
  sub := fun y c h => by simp at h
  mem := fun y c h => by simp at h
  back := fun j y i h => by simp at h
  ap := .nil
  nl := fun y h => by simp at h
theorem compOk1 {scope : Scope} {x y : Str} {c : Addr} {i : Nat} (clos : closureFor scope C.env = pure [(y, c)]) (kind : scope.kind = .function) (nocell : ∀ y ∈ scope.names, y.2 ≠ .cell) (names : ∀ y ∈ scope.names, y.2 = .local → scope.names.lookup y.1 = some .local)
    (hx : scope.names.lookup x = some .local) (hxy : (x == y) = false) (hc : C.env.cells.lookup y = some c) (hn : At C.names y i) (nl : ∀ L, (compEnvC scope [(y, c)] L C.env).kindOf y = some .cell) : CompOk C scope [(y, c)] x [y] [i] where
  clos := clos
  kind := kind
  nocell := nocell
  names := names
  hx := hx
  xcl := by simp [List.lookup, hxy]
  nd := by simpa using hxy
  sub := fun z d h => by
    simp only [List.lookup] at h
    split at h
    · rename_i e
      cases h
      obtain rfl : z = y := by simpa using e
      exact ⟨hc, 0, i, rfl, rfl, hn.get⟩
    · cases h
  mem := fun z d h => by
    simp at h
    obtain ⟨rfl, rfl⟩ := h
    exact hc
  back := fun j z k h1 h2 => by
    cases j with
    | zero => simp at h1 h2; subst h1; subst h2; exact hn.get
    | succ j => simp at h1
  ap := by simp
  nl := fun z hz L => by
    simp at hz
    subst hz
    rw [nl L]
    nofun
end Mine

namespace Mine
open _root_.PySem _root_.PySem.W PyProof.Rows _root_.PySem.Calls

/-! the same facts, boxed, so that a proof term is read from the top down -/
structure SE (C : Cx) (e : Expr) (f : XF) : Prop where
  go : SimE C e f
structure ST (C : Cx) (e : Expr) (f : TF) : Prop where
  go : SimT C e f
structure SL (C : Cx) (es : List Expr) (f : LF) : Prop where
  go : SimL C es f
structure SS (C : Cx) (st : Stmt) (f : SF) : Prop where
  go : SimS C st f
structure SB (C : Cx) (sts : List Stmt) (f : SF) : Prop where
  go : SimSs C sts f
structure SN (C : Cx) (x : Str) (k : Nat) : Prop where
  go : SimN C x k
structure SA (C : Cx) (t : Expr) (f : V → Loc → Hp → Option Loc) : Prop where
  go : SimA C t f
structure CO (C : Cx) (v : Value) (F : Fn) : Prop where
  go : CallOk C v F

variable {C : Cx}
theorem e_int {i k pos} : SE C (.Constant (.int i) k pos) (intX i) := ⟨sim_int⟩
theorem e_bool {b k pos} : SE C (.Constant (.bool b) k pos) (boolX b) := ⟨sim_bool⟩
theorem e_varL {x pos i} (K : COk C) (hi : At C.names x i) (hl : C.env.kindOf x = some .local) (hd : (x == ("__debug__" : Str)) = false) : SE C (.Name x pos) (varX i) := ⟨sim_varL K hi hl hd⟩
theorem e_varC {x pos i c} (K : COk C) (hi : At C.names x i) (hl : C.env.kindOf x = some .cell) (hc : C.env.cells.lookup x = some c) (hd : (x == ("__debug__" : Str)) = false) : SE C (.Name x pos) (varX i) := ⟨sim_varC K hi hl hc hd⟩
theorem e_gint {x pos i} (K : COk C) (g : GlobIs C x (fun v => ∃ t, v = .int i t)) : SE C (.Name x pos) (intX i) := ⟨sim_gint K g⟩
theorem e_gref {x pos k} {a : Addr} (g : GlobIs C x (· = .ref a)) (hk : C.fz[k]? = some a) : SE C (.Name x pos) (refX k) := ⟨sim_gref g hk⟩
theorem e_bin (K : COk C) {l r op pos f g} (h1 : SE C l f) (h2 : SE C r g) : SE C (.BinOp l op r pos) (binX op f g) := ⟨sim_bin K h1.go h2.go⟩
theorem e_cmp {l r op pos f g} (h1 : SE C l f) (h2 : SE C r g) (hm : behindInMarks op r = false) : SE C (.Compare l [op] [r] pos) (cmpX op f g) := ⟨sim_cmp h1.go h2.go hm⟩
theorem t_cmp {l r op pos f g} (h1 : SE C l f) (h2 : SE C r g) (hm : behindInMarks op r = false) : ST C (.Compare l [op] [r] pos) (cmpT op f g) := ⟨simT_cmp h1.go h2.go hm⟩
theorem e_neg {x pos f} (h1 : SE C x f) : SE C (.UnaryOp .USub x pos) (negX f) := ⟨sim_neg h1.go⟩
theorem e_not {x pos f} (h1 : SE C x f) : SE C (.UnaryOp .Not x pos) (notX f) := ⟨sim_not h1.go⟩
theorem e_and {x y pos f g} (h1 : SE C x f) (h2 : SE C y g) : SE C (.BoolOp .And [x, y] pos) (andX f g) := ⟨sim_and h1.go h2.go⟩
theorem e_ite {t x y pos ft f g} (h0 : ST C t ft) (h1 : SE C x f) (h2 : SE C y g) : SE C (.IfExp t x y pos) (iteX ft f g) := ⟨sim_ite h0.go h1.go h2.go⟩
theorem t_val {x f} (h1 : SE C x f) (he : ∀ env whole, isTrue x env whole = (do let v ← whole; standAt x.pos; holding [v] (truthy v))) : ST C x (boolT f) := ⟨simT_val h1.go he⟩
theorem t_not {x pos f} (h1 : ST C x f) : ST C (.UnaryOp .Not x pos) (notT f) := ⟨simT_not h1.go⟩
theorem t_and {x y pos f g} (h1 : ST C x f) (h2 : ST C y g) : ST C (.BoolOp .And [x, y] pos) (andT f g) := ⟨simT_and h1.go h2.go⟩
theorem l_nil : SL C [] nilL := ⟨simL_nil⟩
theorem l_cons {e es f g} (h1 : SE C e f) (h2 : SL C es g) (he : ∀ env, starEach (e :: es) env = (false, eval e env) :: starEach es env) : SL C (e :: es) (consL f g) := ⟨simL_cons h1.go h2.go he⟩
theorem e_lst (K : COk C) {es pos f} (h1 : SL C es f) : SE C (.List es pos) (lstX f) := ⟨sim_lst K h1.go⟩
theorem e_tup (K : COk C) {es k pos f} (h1 : SL C es f) : SE C (.Tuple es k pos) (tupX f) := ⟨sim_tup K h1.go⟩
theorem e_idx {e i pos f g} (h1 : SE C e f) (h2 : SE C i g) (hs : ∀ o j u, subscripted i false (.ref o) (.int j u) = operate [.ref o, .int j u] (getItem (.ref o) (.int j u))) : SE C (.Subscript e i pos) (idxX f g) := ⟨sim_idx h1.go h2.go hs⟩
theorem e_sl (K : COk C) {e lo hi p pos f g h} (h1 : SE C e f) (h2 : SE C lo g) (h3 : SE C hi h) : SE C (.Subscript e (.Slice (some lo) (some hi) none p) pos) (slX f g h) := ⟨sim_sl K h1.go h2.go h3.go⟩
theorem e_take (K : COk C) {e hi p pos f h} (h1 : SE C e f) (h3 : SE C hi h) : SE C (.Subscript e (.Slice none (some hi) none p) pos) (takeX f h) := ⟨sim_take K h1.go h3.go⟩
theorem o_len : CO C (.builtin "len") lenF := ⟨call_len⟩
theorem o_abs : CO C (.builtin "abs") absF := ⟨call_abs⟩
theorem o_max (K : COk C) : CO C (.builtin "max") maxF := ⟨call_max K⟩
theorem o_min (K : COk C) : CO C (.builtin "min") minF := ⟨call_min K⟩
theorem o_range (K : COk C) : CO C (.type "range") rangeF := ⟨call_range K⟩
theorem o_list (K : COk C) : CO C (.type "list") listBaF := ⟨call_listBa K⟩
theorem e_callB {x npos e es pos g id F} (hf : GlobIs C x (· = .builtin id)) (hl : SL C (e :: es) g) (hF : CO C (.builtin id) F)
    (he : ∀ env, starEach (e :: es) env = (false, eval e env) :: starEach es env) (hp : ∀ env, (backTo pos (starEach es env)).any (·.1) = false)
    (hc : ∀ env, eval (.Call (.Name x npos) (e :: es) [] pos) env = (do callWith pos (← eval (.Name x npos) env) [] (backTo pos (starEach (e :: es) env)) (backToKw pos (keywordEach [] env)))) :
    SE C (.Call (.Name x npos) (e :: es) [] pos) (callX g F) := ⟨sim_callB hf hl.go hF.go he hp hc⟩
theorem e_callT {x npos e es pos g T F} (hf : GlobIs C x (· = .type T)) (hl : SL C (e :: es) g) (hF : CO C (.type T) F)
    (he : ∀ env, starEach (e :: es) env = (false, eval e env) :: starEach es env) (hp : ∀ env, (backTo pos (starEach es env)).any (·.1) = false)
    (hc : ∀ env, eval (.Call (.Name x npos) (e :: es) [] pos) env = (do callWith pos (← eval (.Name x npos) env) [] (backTo pos (starEach (e :: es) env)) (backToKw pos (keywordEach [] env)))) :
    SE C (.Call (.Name x npos) (e :: es) [] pos) (callX g F) := ⟨sim_callT hf hl.go hF.go he hp hc⟩
theorem e_callF {x npos e es pos g} {f : Addr} {fd F} (hf : GlobIs C x (· = .ref f)) (hfo : ∃ o, C.W.get? f = some o ∧ o.data = .func fd) (hl : SL C (e :: es) g) (hF : CO C (.ref f) F)
    (he : ∀ env, starEach (e :: es) env = (false, eval e env) :: starEach es env)
    (hc : ∀ env, eval (.Call (.Name x npos) (e :: es) [] pos) env = (do callWith pos (← eval (.Name x npos) env) [] (backTo pos (starEach (e :: es) env)) (backToKw pos (keywordEach [] env)))) :
    SE C (.Call (.Name x npos) (e :: es) [] pos) (callX g F) := by
  obtain ⟨o, h1, h2⟩ := hfo
  exact ⟨sim_callF hf h1 h2 hl.go hF.go he hc⟩
theorem e_callF0 {x npos pos} {f : Addr} {fd F} (hf : GlobIs C x (· = .ref f)) (hfo : ∃ o, C.W.get? f = some o ∧ o.data = .func fd) (hF : CO C (.ref f) F)
    (hc : ∀ env, eval (.Call (.Name x npos) [] [] pos) env = (do callWith pos (← eval (.Name x npos) env) [] (backTo pos (starEach [] env)) (backToKw pos (keywordEach [] env)))) :
    SE C (.Call (.Name x npos) [] [] pos) (callX nilL F) := by
  obtain ⟨o, h1, h2⟩ := hfo
  exact ⟨sim_callF0 hf h1 h2 hF.go hc⟩
theorem s_nil : SB C [] nilS := ⟨simS_nil⟩
theorem s_cons {st sts f g} (h1 : SS C st f) (h2 : SB C sts g) : SB C (st :: sts) (consS f g) := ⟨simS_cons h1.go h2.go⟩
theorem s_fail {sts : List Stmt} : SB C sts failS := ⟨simS_fail⟩
theorem s_ret {e pos f} (h1 : SE C e f) : SS C (.Return (some e) pos) (retF f) := ⟨simS_ret h1.go⟩
theorem s_if {t b o pos ft f g} (h0 : ST C t ft) (h1 : SB C b f) (h2 : SB C o g) : SS C (.If t b o pos) (ifF ft f g) := ⟨simS_if h0.go h1.go h2.go⟩
theorem n_L (K : COk C) {x k} (hx : At C.names x k) (hl : C.env.kindOf x = some .local) (hc : C.env.cells.lookup x = none) : SN C x k := ⟨simN_L K hx hl hc⟩
theorem n_C (K : COk C) {x k c} (hx : At C.names x k) (hl : C.env.kindOf x = some .cell) (hc : C.env.cells.lookup x = some c) : SN C x k := ⟨simN_C K hx hl hc⟩
theorem s_assign {x pos' e pos f k} (hn : SN C x k) (h1 : SE C e f) (hs : swapsWith e (some (.Name x pos')) pos.line C.env = pure false) : SS C (.Assign [.Name x pos'] e pos) (assignF k f) := ⟨simS_assign hn.go h1.go hs⟩
theorem s_aug (K : COk C) {x pos' op e pos f k} (hx : At C.names x k) (hl : C.env.kindOf x = some .local) (hn : SN C x k) (h1 : SE C e f) : SS C (.AugAssign (.Name x pos') op e pos) (augF k op f) := ⟨simS_aug K hx hl hn.go h1.go⟩
theorem s_store {o i pos' e pos f g h} (hnf : C.nf = 12) (h1 : SE C e f) (h2 : SE C o g) (h3 : SE C i h) (hs : swapsWithSole [.Subscript o i pos'] e pos.line C.env = pure false)
    (hw : swappedStores [.Subscript o i pos'] e C.env = pure none) (ha : (assignEach [.Subscript o i pos'] C.env).map (·.2) = [assign (.Subscript o i pos') C.env]) :
    SS C (.Assign [.Subscript o i pos'] e pos) (storeF 12 f g h) := ⟨hnf ▸ simS_store h1.go h2.go h3.go hs hw ha⟩
theorem s_storeSl {o lo hi p pos' e pos f g h h'} (hnf : C.nf = 12) (h1 : SE C e f) (h2 : SE C o g) (h3 : SE C lo h) (h4 : SE C hi h') (hs : swapsWithSole [.Subscript o (.Slice (some lo) (some hi) none p) pos'] e pos.line C.env = pure false)
    (hw : swappedStores [.Subscript o (.Slice (some lo) (some hi) none p) pos'] e C.env = pure none) (ha : (assignEach [.Subscript o (.Slice (some lo) (some hi) none p) pos'] C.env).map (·.2) = [assign (.Subscript o (.Slice (some lo) (some hi) none p) pos') C.env]) :
    SS C (.Assign [.Subscript o (.Slice (some lo) (some hi) none p) pos'] e pos) (storeSlF 12 f g h h') := ⟨hnf ▸ simS_storeSl h1.go h2.go h3.go h4.go hs hw ha⟩
theorem s_append {o apos e cpos pos f g} (hnf : C.nf = 12) (h1 : SE C o f) (h2 : SE C e g)
    (he : ∃ pl, eval (.Call (.Attribute o (Str.ofString "append") apos) [e] [] cpos) C.env = (do
      let ov ← eval o C.env
      standAt apos.atName
      let (f, first) ← holding [ov] (getMethod ov (Str.ofString "append") pl)
      callWith cpos f first (backTo cpos (starEach [e] C.env)) []))
    (hst : starEach [e] C.env = (false, eval e C.env) :: starEach [] C.env)
    (hi : interactive C.env = false) (hs : swapsWith (.Call (.Attribute o (Str.ofString "append") apos) [e] [] cpos) none pos.line C.env = pure false) :
    SS C (.Expr (.Call (.Attribute o (Str.ofString "append") apos) [e] [] cpos) pos) (appF 12 f g) := ⟨hnf ▸ simS_append h1.go h2.go he hst hi hs⟩
theorem a_name {x pos k} (hn : SN C x k) : SA C (.Name x pos) (nameA k) := ⟨simA_name hn.go⟩
theorem a_pair (K : COk C) {t1 t2 n pos f g} (h1 : SA C t1 f) (h2 : SA C t2 g) (he : assignEach [t1, t2] C.env = [(false, assign t1 C.env), (false, assign t2 C.env)]) : SA C (.Tuple [t1, t2] n pos) (pairA f g) := ⟨simA_pair K h1.go h2.go he⟩
theorem s_for (K : COk C) {t it body pos asg f g} (hA : SA C t asg) (h1 : SE C it f) (hb : SB C body g) (hs : ∀ x, foldedSetIterable it C.env x = pure x) : SS C (.For t it body [] pos) (forF asg f g) := ⟨simS_for K hA.go h1.go hb.go hs⟩
theorem s_while {t : Expr} {body : List Stmt} {pos ft f} (n : Nat) (h0 : ST C t ft) (hb : SB C body f) : SS C (.While t body [] pos) (whileF n ft f) := ⟨simS_while n h0.go hb.go⟩
theorem s_expr {e pos f} (h1 : SE C e f) (hi : interactive C.env = false) (hs : swapsWith e none pos.line C.env = pure false) : SS C (.Expr e pos) (exprF f) := ⟨simS_expr h1.go hi hs⟩
theorem s_assignT {t e pos asg f} (hA : SA C t asg) (h1 : SE C e f) (hs : swapsWithSole [t] e pos.line C.env = pure false)
    (hw : swappedStores [t] e C.env = pure none) (ha : (assignEach [t] C.env).map (·.2) = [assign t C.env]) : SS C (.Assign [t] e pos) (assignTF asg f) := ⟨simS_assignT hA.go h1.go hs hw ha⟩
theorem e_comp (K : COk C) {elt iter : Expr} {x : Str} {px pos : Pos} {scope : Scope} {cl fn fidx} {f : XF} {it : XF} (P : CompOk C scope cl x fn fidx) (h1 : SE C iter it)
    (hE : ∀ L, COk (compCx C scope cl (x :: fn) L) → SE (compCx C scope cl (x :: fn) L) elt f)
    (hs : ∀ x, foldedSetIterable iter C.env x = pure x) : SE C (.ListComp elt [⟨.Name x px, iter, [], 0⟩] scope pos) (compF fidx it f) := ⟨sim_comp K P h1.go (fun L K' => (hE L K').go) hs⟩
theorem s_comp (K : COk C) {elt iter : Expr} {x y : Str} {px py pos spos : Pos} {scope : Scope} {cl fn fidx} {f : XF} {it : XF} {k : Nat} (hn : SN C y k) (P : CompOk C scope cl x fn fidx) (h1 : SE C iter it)
    (hE : ∀ L, COk (compCx C scope cl (x :: fn) L) → SE (compCx C scope cl (x :: fn) L) elt f)
    (hs : ∀ x, foldedSetIterable iter C.env x = pure x)
    (hsw : swapsWith (.ListComp elt [⟨.Name x px, iter, [], 0⟩] scope pos) (some (.Name y py)) spos.line C.env = pure true) :
    SS C (.Assign [.Name y py] (.ListComp elt [⟨.Name x px, iter, [], 0⟩] scope pos) spos) (assignF k (compF fidx it f)) := ⟨simS_comp K hn.go P h1.go (fun L K' => (hE L K').go) hs hsw⟩
theorem s_forZip (K : COk C) {elts : List Expr} {x1} {tpos npos cpos pos : Pos} {e : Expr} {es : List Expr} {body : List Stmt} {asg g f} (hA : SA C (.Tuple elts x1 tpos) asg) (hf : GlobIs C "zip" (· = .type "zip")) (hl : SL C (e :: es) g) (hb : SB C body f)
    (hs : ∀ x, foldedSetIterable (.Call (.Name "zip" npos) (e :: es) [] cpos) C.env x = pure x)
    (he : ∀ env, starEach (e :: es) env = (false, eval e env) :: starEach es env) (hp : ∀ env, (backTo cpos (starEach es env)).any (·.1) = false)
    (hc : ∀ env, eval (.Call (.Name "zip" npos) (e :: es) [] cpos) env = (do callWith cpos (← eval (.Name "zip" npos) env) [] (backTo cpos (starEach (e :: es) env)) (backToKw cpos (keywordEach [] env)))) :
    SS C (.For (.Tuple elts x1 tpos) (.Call (.Name "zip" npos) (e :: es) [] cpos) body [] pos) (zipF asg g f) := ⟨simS_forZip K hA.go hf hl.go hb.go hs he hp hc⟩
theorem e_tupGen {P : Params} {mg mb : Str → Option Value} (K : COk C) (X : Wd C.W C.fz C.nf P mg mb) {kr : Nat} {cd P0 c : Addr} {x y : Str} {npos bpos ypos epos px pos cpos : Pos} {iter : Expr} {scope : Scope} {cl : List (Str × Addr)} {f : XF}
    (hroom : C.A.depth < recursionLimit) (henv : C.env.globals = mainGlobals) (T : TabOk C 0 cd P0) (O : GenOk C scope cl x y kr c) (h1 : SE C iter f)
    (hft : GlobIs C "tuple" (· = .type "tuple")) (hfb : ∀ A' L code, GlobIs { C with A := A', env := genEnv scope cl L code builtinsNs C.env } "bytearray" (· = .type "bytearray"))
    (hd : (y == ("__debug__" : Str)) = false) (hn : (y == ("__classdict__" : Str)) = false) (hs : ∀ x, genFold iter C.env x = pure x)
    (hey : ∀ env, starEach [Expr.Name y ypos] env = [(false, eval (.Name y ypos) env)])
    (hcy : ∀ env, eval (.Call (.Name "bytearray" bpos) [.Name y ypos] [] epos) env = (do callWith epos (← eval (.Name "bytearray" bpos) env) [] (backTo epos (starEach [Expr.Name y ypos] env)) (backToKw epos (keywordEach [] env))))
    (het : ∀ env, starEach [Expr.GeneratorExp (.Call (.Name "bytearray" bpos) [.Name y ypos] [] epos) [⟨.Name x px, iter, [], 0⟩] scope pos] env = [(false, eval (Expr.GeneratorExp (.Call (.Name "bytearray" bpos) [.Name y ypos] [] epos) [⟨.Name x px, iter, [], 0⟩] scope pos) env)])
    (hct : ∀ env, eval (.Call (.Name "tuple" npos) [Expr.GeneratorExp (.Call (.Name "bytearray" bpos) [.Name y ypos] [] epos) [⟨.Name x px, iter, [], 0⟩] scope pos] [] cpos) env = (do callWith cpos (← eval (.Name "tuple" npos) env) [] (backTo cpos (starEach [Expr.GeneratorExp (.Call (.Name "bytearray" bpos) [.Name y ypos] [] epos) [⟨.Name x px, iter, [], 0⟩] scope pos] env)) (backToKw cpos (keywordEach [] env)))) :
    SE C (.Call (.Name "tuple" npos) [Expr.GeneratorExp (.Call (.Name "bytearray" bpos) [.Name y ypos] [] epos) [⟨.Name x px, iter, [], 0⟩] scope pos] [] cpos) (tupGenF 0 kr f) := by
  obtain ⟨bm, ob, b1, b2, b3, b4, b5, b6⟩ := X.bm
  refine ⟨sim_tupGen K hroom X.gl.lim T O h1.go hft hfb (fun s Q E hW hq => ?_) hd hn hs hey hcy het hct⟩
  exact wpAny_builtinsFor (by rw [henv]; exact X.gl.g.keeps hW) b1 b2 (hW _ _ b3) b4 b5 b6 hq
theorem e_eqLL (K : COk C) {l r : Expr} {pos : Pos} {f g : XF} (hu : C.A.units + 2 < cLine) (h1 : SE C l f) (h2 : SE C r g) (hm : behindInMarks .Eq r = false) : SE C (.Compare l [.Eq] [r] pos) (eqLLF f g) := ⟨sim_eqLL K hu h1.go h2.go hm⟩
end Mine

namespace Mine
open _root_.PySem _root_.PySem.W PyProof.Rows _root_.PySem.Calls

variable {C : Cx} {P : Params} {mg mb : Str → Option Value}


noncomputable def nm_add_finder_patterns : List Str := ["matrix", "width", "height", "is_square", "corners", "finder_range", "i", "j", "offset", "sepoffset", "r"]
noncomputable def nm_add_timing_pattern : List Str := ["matrix", "is_micro", "j", "stop", "col", "bit", "i"]
noncomputable def nm_add_codewords : List Str := ["matrix", "codewords", "version", "matrix_size", "is_micro", "inc", "idx", "codeword_length", "range_two", "right", "vertical", "z", "j", "upwards", "i", "row"]
noncomputable def nm_make_matrix : List Str := ["width", "height", "reserve_regions", "add_timing", "is_square", "is_micro", "row", "matrix", "i", "row_eight"]
noncomputable def nm_law_SIZES : List Str := []
noncomputable def nm_law_blank : List Str := ["size", "picture", "great", "place", "line", "down", "right", "i", "j", "ring"]
noncomputable def nm_law_spots : List Str := ["picture", "size", "spots", "up", "right", "step", "i", "j"]
noncomputable def nm_law : List Str := ["script", "numbers", "version", "size", "due", "spots", "kind", "length", "stream", "matrix", "i", "j", "bit"]

noncomputable def f_add_timing_pattern : SF :=
  (consS (assignTF (pairA (nameA 2) (nameA 3)) (iteX (boolT (varX 1)) (tupX (consL (intX 0) (consL (callX (consL (varX 0) nilL) lenF) nilL))) (tupX (consL (intX 6) (consL (binX .Sub (callX (consL (varX 0) nilL) lenF) (intX 8)) nilL))))) (consS (assignF 4 (idxX (varX 0) (varX 2))) (consS (assignF 5 (intX 1)) (consS (forF (nameA 6) (callX (consL (intX 8) (consL (varX 3) nilL)) rangeF) (consS (storeF 12 (varX 5) (idxX (varX 0) (varX 6)) (varX 2)) (consS (storeF 12 (varX 5) (varX 4) (varX 6)) (consS (augF 5 .BitXor (intX 1)) nilS)))) nilS))))
theorem sim_add_timing_pattern {L : Nat} (X : Wd C.W C.fz C.nf P mg mb) (K : COk (callee C (fdA P 38) nm_add_timing_pattern L 38)) : SB (callee C (fdA P 38) nm_add_timing_pattern L 38) (bodyOf (fdA P 38)) f_add_timing_pattern := by
  have X : Wd (callee C (fdA P 38) nm_add_timing_pattern L 38).W (callee C (fdA P 38) nm_add_timing_pattern L 38).fz (callee C (fdA P 38) nm_add_timing_pattern L 38).nf P mg mb := X
  have a_matrix : At (callee C (fdA P 38) nm_add_timing_pattern L 38).names "matrix" 0 := .here
  have k_matrix : (callee C (fdA P 38) nm_add_timing_pattern L 38).env.kindOf "matrix" = some .local := by kernel_rfl
  have c_matrix : (callee C (fdA P 38) nm_add_timing_pattern L 38).env.cells.lookup ("matrix" : Str) = none := by kernel_rfl
  have d_matrix : (("matrix" : Str) == ("__debug__" : Str)) = false := by kernel_rfl
  have a_is_micro : At (callee C (fdA P 38) nm_add_timing_pattern L 38).names "is_micro" 1 := (.there .here)
  have k_is_micro : (callee C (fdA P 38) nm_add_timing_pattern L 38).env.kindOf "is_micro" = some .local := by kernel_rfl
  have c_is_micro : (callee C (fdA P 38) nm_add_timing_pattern L 38).env.cells.lookup ("is_micro" : Str) = none := by kernel_rfl
  have d_is_micro : (("is_micro" : Str) == ("__debug__" : Str)) = false := by kernel_rfl
  have a_j : At (callee C (fdA P 38) nm_add_timing_pattern L 38).names "j" 2 := (.there (.there .here))
  have k_j : (callee C (fdA P 38) nm_add_timing_pattern L 38).env.kindOf "j" = some .local := by kernel_rfl
  have c_j : (callee C (fdA P 38) nm_add_timing_pattern L 38).env.cells.lookup ("j" : Str) = none := by kernel_rfl
  have d_j : (("j" : Str) == ("__debug__" : Str)) = false := by kernel_rfl
  have a_stop : At (callee C (fdA P 38) nm_add_timing_pattern L 38).names "stop" 3 := (.there (.there (.there .here)))
  have k_stop : (callee C (fdA P 38) nm_add_timing_pattern L 38).env.kindOf "stop" = some .local := by kernel_rfl
  have c_stop : (callee C (fdA P 38) nm_add_timing_pattern L 38).env.cells.lookup ("stop" : Str) = none := by kernel_rfl
  have d_stop : (("stop" : Str) == ("__debug__" : Str)) = false := by kernel_rfl
  have a_col : At (callee C (fdA P 38) nm_add_timing_pattern L 38).names "col" 4 := (.there (.there (.there (.there .here))))
  have k_col : (callee C (fdA P 38) nm_add_timing_pattern L 38).env.kindOf "col" = some .local := by kernel_rfl
  have c_col : (callee C (fdA P 38) nm_add_timing_pattern L 38).env.cells.lookup ("col" : Str) = none := by kernel_rfl
  have d_col : (("col" : Str) == ("__debug__" : Str)) = false := by kernel_rfl
  have a_bit : At (callee C (fdA P 38) nm_add_timing_pattern L 38).names "bit" 5 := (.there (.there (.there (.there (.there .here)))))
  have k_bit : (callee C (fdA P 38) nm_add_timing_pattern L 38).env.kindOf "bit" = some .local := by kernel_rfl
  have c_bit : (callee C (fdA P 38) nm_add_timing_pattern L 38).env.cells.lookup ("bit" : Str) = none := by kernel_rfl
  have d_bit : (("bit" : Str) == ("__debug__" : Str)) = false := by kernel_rfl
  have a_i : At (callee C (fdA P 38) nm_add_timing_pattern L 38).names "i" 6 := (.there (.there (.there (.there (.there (.there .here))))))
  have k_i : (callee C (fdA P 38) nm_add_timing_pattern L 38).env.kindOf "i" = some .local := by kernel_rfl
  have c_i : (callee C (fdA P 38) nm_add_timing_pattern L 38).env.cells.lookup ("i" : Str) = none := by kernel_rfl
  have d_i : (("i" : Str) == ("__debug__" : Str)) = false := by kernel_rfl
  have g_len : GlobIs (callee C (fdA P 38) nm_add_timing_pattern L 38) "len" (· = .builtin "len") := X.built (by decide +kernel) (by kernel_rfl) (by kernel_rfl) (by kernel_rfl) (by kernel_rfl) (by kernel_rfl) (by kernel_rfl)
  have g_range : GlobIs (callee C (fdA P 38) nm_add_timing_pattern L 38) "range" (· = .type "range") := X.built (by decide +kernel) (by kernel_rfl) (by kernel_rfl) (by kernel_rfl) (by kernel_rfl) (by kernel_rfl) (by kernel_rfl)
  exact (s_cons (s_assignT (a_pair K (a_name (n_L K a_j k_j c_j)) (a_name (n_L K a_stop k_stop c_stop)) rfl) (e_ite (t_val (e_varL K a_is_micro k_is_micro d_is_micro) (fun _ _ => rfl)) (e_tup K (l_cons e_int (l_cons (e_callB g_len (l_cons (e_varL K a_matrix k_matrix d_matrix) l_nil (fun _ => rfl)) o_len (fun _ => rfl) (fun _ => rfl) (fun _ => rfl)) l_nil (fun _ => rfl)) (fun _ => rfl))) (e_tup K (l_cons e_int (l_cons (e_bin K (e_callB g_len (l_cons (e_varL K a_matrix k_matrix d_matrix) l_nil (fun _ => rfl)) o_len (fun _ => rfl) (fun _ => rfl) (fun _ => rfl)) e_int) l_nil (fun _ => rfl)) (fun _ => rfl)))) rfl rfl rfl) (s_cons (s_assign (n_L K a_col k_col c_col) (e_idx (e_varL K a_matrix k_matrix d_matrix) (e_varL K a_j k_j d_j) (fun _ _ _ => rfl)) rfl) (s_cons (s_assign (n_L K a_bit k_bit c_bit) e_int rfl) (s_cons (s_for K (a_name (n_L K a_i k_i c_i)) (e_callT g_range (l_cons e_int (l_cons (e_varL K a_stop k_stop d_stop) l_nil (fun _ => rfl)) (fun _ => rfl)) (o_range K) (fun _ => rfl) (fun _ => rfl) (fun _ => rfl)) (s_cons (s_store X.nf (e_varL K a_bit k_bit d_bit) (e_idx (e_varL K a_matrix k_matrix d_matrix) (e_varL K a_i k_i d_i) (fun _ _ _ => rfl)) (e_varL K a_j k_j d_j) rfl rfl rfl) (s_cons (s_store X.nf (e_varL K a_bit k_bit d_bit) (e_varL K a_col k_col d_col) (e_varL K a_i k_i d_i) rfl rfl rfl) (s_cons (s_aug K a_bit k_bit (n_L K a_bit k_bit c_bit) e_int) s_nil))) (fun _ => rfl)) s_nil))))

noncomputable def F_add_timing_pattern : Fn := fnF 2 5 [] f_add_timing_pattern
theorem dok_add_timing_pattern (X : Wd C.W C.fz C.nf P mg mb) : DefOk C (fdA P 38) 38 (bodyOf (fdA P 38)) nm_add_timing_pattern 2 [] [] where
  obj := X.fn (by kernel_rfl)
  lim := X.gl.lim
  cd := X.cd (by kernel_rfl)
  body := by kernel_rfl
  clo := by kernel_rfl
  co := by kernel_rfl
  gen := by kernel_rfl
  kind := by kernel_rfl
  bind := fun ws s hw hk => by
    obtain ⟨v0, v1, rfl⟩ : ∃ v0 v1, ws = [v0, v1] := by
      match ws, hw with
      | [v0, v1], _ => exact ⟨v0, v1, rfl⟩
    exact BindsTo.of_eq (by kernel_rfl)
  kinds := fun L x hx => by
    have hx : x ∈ (["matrix", "is_micro"] : List Str) := hx
    simp only [List.mem_cons, List.not_mem_nil, or_false] at hx
    rcases hx with rfl | rfl
    · exact .inl (by kernel_rfl)
    · exact .inl (by kernel_rfl)
  cells := fun L x c h => by
    have e : cellsFrom (L + 1) (fdA P 38).scope.names [] = [] := by kernel_rfl
    rw [e] at h; cases h
  nd := by decide +kernel
  dfls := fun α => .nil
theorem ok_add_timing_pattern (X : Wd C.W C.fz C.nf P mg mb) (K : COk C) (hroom : C.A.depth + 5 < recursionLimit) : CO C (.ref 38) F_add_timing_pattern :=
  ⟨call_def K (by omega) (dok_add_timing_pattern X) fun L K' => (sim_add_timing_pattern X K').go⟩

noncomputable def f_add_finder_patterns : SF :=
  (consS (assignF 3 (cmpX .Eq (varX 1) (varX 2))) (consS (assignF 4 (tupX (consL (tupX (consL (intX 0) (consL (intX 0) nilL))) (consL (tupX (consL (intX 0) (consL (binX .Sub (callX (consL (varX 0) nilL) lenF) (intX 8)) nilL))) (consL (tupX (consL (negX (intX 8)) (consL (intX 0) nilL))) nilL))))) (consS (ifF (andT (boolT (varX 3)) (cmpT .Lt (varX 1) (intX 21))) (consS (assignF 4 (tupX (consL (tupX (consL (intX 0) (consL (intX 0) nilL))) nilL))) nilS) nilS) (consS (assignF 5 (callX (consL (intX 8) nilL) rangeF)) (consS (forF (pairA (nameA 6) (nameA 7)) (varX 4) (consS (assignF 8 (iteX (cmpT .Eq (varX 6) (intX 0)) (intX 1) (intX 0))) (consS (assignF 9 (iteX (cmpT .NotEq (varX 7) (intX 0)) (intX 0) (intX 1))) (consS (forF (nameA 10) (varX 5) (consS (storeSlF 12 (slX (idxX (refX 10) (binX .Add (varX 8) (varX 10))) (varX 9) (binX .Add (varX 9) (intX 8))) (idxX (varX 0) (binX .Add (varX 6) (varX 10))) (varX 7) (binX .Add (varX 7) (intX 8))) nilS)) nilS)))) nilS)))))
theorem sim_add_finder_patterns {L : Nat} (X : Wd C.W C.fz C.nf P mg mb) (K : COk (callee C (fdA P 31) nm_add_finder_patterns L 31)) : SB (callee C (fdA P 31) nm_add_finder_patterns L 31) (bodyOf (fdA P 31)) f_add_finder_patterns := by
  have X : Wd (callee C (fdA P 31) nm_add_finder_patterns L 31).W (callee C (fdA P 31) nm_add_finder_patterns L 31).fz (callee C (fdA P 31) nm_add_finder_patterns L 31).nf P mg mb := X
  have a_matrix : At (callee C (fdA P 31) nm_add_finder_patterns L 31).names "matrix" 0 := .here
  have k_matrix : (callee C (fdA P 31) nm_add_finder_patterns L 31).env.kindOf "matrix" = some .local := by kernel_rfl
  have c_matrix : (callee C (fdA P 31) nm_add_finder_patterns L 31).env.cells.lookup ("matrix" : Str) = none := by kernel_rfl
  have d_matrix : (("matrix" : Str) == ("__debug__" : Str)) = false := by kernel_rfl
  have a_width : At (callee C (fdA P 31) nm_add_finder_patterns L 31).names "width" 1 := (.there .here)
  have k_width : (callee C (fdA P 31) nm_add_finder_patterns L 31).env.kindOf "width" = some .local := by kernel_rfl
  have c_width : (callee C (fdA P 31) nm_add_finder_patterns L 31).env.cells.lookup ("width" : Str) = none := by kernel_rfl
  have d_width : (("width" : Str) == ("__debug__" : Str)) = false := by kernel_rfl
  have a_height : At (callee C (fdA P 31) nm_add_finder_patterns L 31).names "height" 2 := (.there (.there .here))
  have k_height : (callee C (fdA P 31) nm_add_finder_patterns L 31).env.kindOf "height" = some .local := by kernel_rfl
  have c_height : (callee C (fdA P 31) nm_add_finder_patterns L 31).env.cells.lookup ("height" : Str) = none := by kernel_rfl
  have d_height : (("height" : Str) == ("__debug__" : Str)) = false := by kernel_rfl
  have a_is_square : At (callee C (fdA P 31) nm_add_finder_patterns L 31).names "is_square" 3 := (.there (.there (.there .here)))
  have k_is_square : (callee C (fdA P 31) nm_add_finder_patterns L 31).env.kindOf "is_square" = some .local := by kernel_rfl
  have c_is_square : (callee C (fdA P 31) nm_add_finder_patterns L 31).env.cells.lookup ("is_square" : Str) = none := by kernel_rfl
  have d_is_square : (("is_square" : Str) == ("__debug__" : Str)) = false := by kernel_rfl
  have a_corners : At (callee C (fdA P 31) nm_add_finder_patterns L 31).names "corners" 4 := (.there (.there (.there (.there .here))))
  have k_corners : (callee C (fdA P 31) nm_add_finder_patterns L 31).env.kindOf "corners" = some .local := by kernel_rfl
  have c_corners : (callee C (fdA P 31) nm_add_finder_patterns L 31).env.cells.lookup ("corners" : Str) = none := by kernel_rfl
  have d_corners : (("corners" : Str) == ("__debug__" : Str)) = false := by kernel_rfl
  have a_finder_range : At (callee C (fdA P 31) nm_add_finder_patterns L 31).names "finder_range" 5 := (.there (.there (.there (.there (.there .here)))))
  have k_finder_range : (callee C (fdA P 31) nm_add_finder_patterns L 31).env.kindOf "finder_range" = some .local := by kernel_rfl
  have c_finder_range : (callee C (fdA P 31) nm_add_finder_patterns L 31).env.cells.lookup ("finder_range" : Str) = none := by kernel_rfl
  have d_finder_range : (("finder_range" : Str) == ("__debug__" : Str)) = false := by kernel_rfl
  have a_i : At (callee C (fdA P 31) nm_add_finder_patterns L 31).names "i" 6 := (.there (.there (.there (.there (.there (.there .here))))))
  have k_i : (callee C (fdA P 31) nm_add_finder_patterns L 31).env.kindOf "i" = some .local := by kernel_rfl
  have c_i : (callee C (fdA P 31) nm_add_finder_patterns L 31).env.cells.lookup ("i" : Str) = none := by kernel_rfl
  have d_i : (("i" : Str) == ("__debug__" : Str)) = false := by kernel_rfl
  have a_j : At (callee C (fdA P 31) nm_add_finder_patterns L 31).names "j" 7 := (.there (.there (.there (.there (.there (.there (.there .here)))))))
  have k_j : (callee C (fdA P 31) nm_add_finder_patterns L 31).env.kindOf "j" = some .local := by kernel_rfl
  have c_j : (callee C (fdA P 31) nm_add_finder_patterns L 31).env.cells.lookup ("j" : Str) = none := by kernel_rfl
  have d_j : (("j" : Str) == ("__debug__" : Str)) = false := by kernel_rfl
  have a_offset : At (callee C (fdA P 31) nm_add_finder_patterns L 31).names "offset" 8 := (.there (.there (.there (.there (.there (.there (.there (.there .here))))))))
  have k_offset : (callee C (fdA P 31) nm_add_finder_patterns L 31).env.kindOf "offset" = some .local := by kernel_rfl
  have c_offset : (callee C (fdA P 31) nm_add_finder_patterns L 31).env.cells.lookup ("offset" : Str) = none := by kernel_rfl
  have d_offset : (("offset" : Str) == ("__debug__" : Str)) = false := by kernel_rfl
  have a_sepoffset : At (callee C (fdA P 31) nm_add_finder_patterns L 31).names "sepoffset" 9 := (.there (.there (.there (.there (.there (.there (.there (.there (.there .here)))))))))
  have k_sepoffset : (callee C (fdA P 31) nm_add_finder_patterns L 31).env.kindOf "sepoffset" = some .local := by kernel_rfl
  have c_sepoffset : (callee C (fdA P 31) nm_add_finder_patterns L 31).env.cells.lookup ("sepoffset" : Str) = none := by kernel_rfl
  have d_sepoffset : (("sepoffset" : Str) == ("__debug__" : Str)) = false := by kernel_rfl
  have a_r : At (callee C (fdA P 31) nm_add_finder_patterns L 31).names "r" 10 := (.there (.there (.there (.there (.there (.there (.there (.there (.there (.there .here))))))))))
  have k_r : (callee C (fdA P 31) nm_add_finder_patterns L 31).env.kindOf "r" = some .local := by kernel_rfl
  have c_r : (callee C (fdA P 31) nm_add_finder_patterns L 31).env.cells.lookup ("r" : Str) = none := by kernel_rfl
  have d_r : (("r" : Str) == ("__debug__" : Str)) = false := by kernel_rfl
  have g__FINDER_PATTERN := glob (C := callee C (fdA P 31) nm_add_finder_patterns L 31) X.gl X.fp (by kernel_rfl) (by kernel_rfl) (by kernel_rfl) (by kernel_rfl)
  have hfp : (callee C (fdA P 31) nm_add_finder_patterns L 31).fz[10]? = some 24 := by obtain ⟨scr, h⟩ := X.fz; rw [h]; rfl
  have g_len : GlobIs (callee C (fdA P 31) nm_add_finder_patterns L 31) "len" (· = .builtin "len") := X.built (by decide +kernel) (by kernel_rfl) (by kernel_rfl) (by kernel_rfl) (by kernel_rfl) (by kernel_rfl) (by kernel_rfl)
  have g_range : GlobIs (callee C (fdA P 31) nm_add_finder_patterns L 31) "range" (· = .type "range") := X.built (by decide +kernel) (by kernel_rfl) (by kernel_rfl) (by kernel_rfl) (by kernel_rfl) (by kernel_rfl) (by kernel_rfl)
  exact (s_cons (s_assign (n_L K a_is_square k_is_square c_is_square) (e_cmp (e_varL K a_width k_width d_width) (e_varL K a_height k_height d_height) rfl) rfl) (s_cons (s_assign (n_L K a_corners k_corners c_corners) (e_tup K (l_cons (e_tup K (l_cons e_int (l_cons e_int l_nil (fun _ => rfl)) (fun _ => rfl))) (l_cons (e_tup K (l_cons e_int (l_cons (e_bin K (e_callB g_len (l_cons (e_varL K a_matrix k_matrix d_matrix) l_nil (fun _ => rfl)) o_len (fun _ => rfl) (fun _ => rfl) (fun _ => rfl)) e_int) l_nil (fun _ => rfl)) (fun _ => rfl))) (l_cons (e_tup K (l_cons (e_neg e_int) (l_cons e_int l_nil (fun _ => rfl)) (fun _ => rfl))) l_nil (fun _ => rfl)) (fun _ => rfl)) (fun _ => rfl))) rfl) (s_cons (s_if (t_and (t_val (e_varL K a_is_square k_is_square d_is_square) (fun _ _ => rfl)) (t_cmp (e_varL K a_width k_width d_width) e_int rfl)) (s_cons (s_assign (n_L K a_corners k_corners c_corners) (e_tup K (l_cons (e_tup K (l_cons e_int (l_cons e_int l_nil (fun _ => rfl)) (fun _ => rfl))) l_nil (fun _ => rfl))) rfl) s_nil) s_nil) (s_cons (s_assign (n_L K a_finder_range k_finder_range c_finder_range) (e_callT g_range (l_cons e_int l_nil (fun _ => rfl)) (o_range K) (fun _ => rfl) (fun _ => rfl) (fun _ => rfl)) rfl) (s_cons (s_for K (a_pair K (a_name (n_L K a_i k_i c_i)) (a_name (n_L K a_j k_j c_j)) rfl) (e_varL K a_corners k_corners d_corners) (s_cons (s_assign (n_L K a_offset k_offset c_offset) (e_ite (t_cmp (e_varL K a_i k_i d_i) e_int rfl) e_int e_int) rfl) (s_cons (s_assign (n_L K a_sepoffset k_sepoffset c_sepoffset) (e_ite (t_cmp (e_varL K a_j k_j d_j) e_int rfl) e_int e_int) rfl) (s_cons (s_for K (a_name (n_L K a_r k_r c_r)) (e_varL K a_finder_range k_finder_range d_finder_range) (s_cons (s_storeSl X.nf (e_sl K (e_idx (e_gref g__FINDER_PATTERN hfp) (e_bin K (e_varL K a_offset k_offset d_offset) (e_varL K a_r k_r d_r)) (fun _ _ _ => rfl)) (e_varL K a_sepoffset k_sepoffset d_sepoffset) (e_bin K (e_varL K a_sepoffset k_sepoffset d_sepoffset) e_int)) (e_idx (e_varL K a_matrix k_matrix d_matrix) (e_bin K (e_varL K a_i k_i d_i) (e_varL K a_r k_r d_r)) (fun _ _ _ => rfl)) (e_varL K a_j k_j d_j) (e_bin K (e_varL K a_j k_j d_j) e_int) rfl rfl rfl) s_nil) (fun _ => rfl)) s_nil))) (fun _ => rfl)) s_nil)))))

noncomputable def F_add_finder_patterns : Fn := fnF 3 8 [] f_add_finder_patterns
theorem dok_add_finder_patterns (X : Wd C.W C.fz C.nf P mg mb) : DefOk C (fdA P 31) 31 (bodyOf (fdA P 31)) nm_add_finder_patterns 3 [] [] where
  obj := X.fn (by kernel_rfl)
  lim := X.gl.lim
  cd := X.cd (by kernel_rfl)
  body := by kernel_rfl
  clo := by kernel_rfl
  co := by kernel_rfl
  gen := by kernel_rfl
  kind := by kernel_rfl
  bind := fun ws s hw hk => by
    obtain ⟨v0, v1, v2, rfl⟩ : ∃ v0 v1 v2, ws = [v0, v1, v2] := by
      match ws, hw with
      | [v0, v1, v2], _ => exact ⟨v0, v1, v2, rfl⟩
    exact BindsTo.of_eq (by kernel_rfl)
  kinds := fun L x hx => by
    have hx : x ∈ (["matrix", "width", "height"] : List Str) := hx
    simp only [List.mem_cons, List.not_mem_nil, or_false] at hx
    rcases hx with rfl | rfl | rfl
    · exact .inl (by kernel_rfl)
    · exact .inl (by kernel_rfl)
    · exact .inl (by kernel_rfl)
  cells := fun L x c h => by
    have e : cellsFrom (L + 1) (fdA P 31).scope.names [] = [] := by kernel_rfl
    rw [e] at h; cases h
  nd := by decide +kernel
  dfls := fun α => .nil
theorem ok_add_finder_patterns (X : Wd C.W C.fz C.nf P mg mb) (K : COk C) (hroom : C.A.depth + 5 < recursionLimit) : CO C (.ref 31) F_add_finder_patterns :=
  ⟨call_def K (by omega) (dok_add_finder_patterns X) fun L K' => (sim_add_finder_patterns X K').go⟩

noncomputable def f_law_SIZES : SF :=
  (consS (retF (lstX (consL (tupX (consL (intX (-3)) (consL (intX 11) nilL))) (consL (tupX (consL (intX (-2)) (consL (intX 13) nilL))) (consL (tupX (consL (intX (-1)) (consL (intX 15) nilL))) (consL (tupX (consL (intX 0) (consL (intX 17) nilL))) (consL (tupX (consL (intX 1) (consL (intX 21) nilL))) nilL))))))) nilS)
theorem sim_law_SIZES {L : Nat} (X : Wd C.W C.fz C.nf P mg mb) (K : COk (callee C (fdA P 60) nm_law_SIZES L 60)) : SB (callee C (fdA P 60) nm_law_SIZES L 60) (bodyOf (fdA P 60)) f_law_SIZES := by
  have X : Wd (callee C (fdA P 60) nm_law_SIZES L 60).W (callee C (fdA P 60) nm_law_SIZES L 60).fz (callee C (fdA P 60) nm_law_SIZES L 60).nf P mg mb := X
  have g_VERSION_M1 := glob (C := callee C (fdA P 60) nm_law_SIZES L 60) X.gl X.m1 (by kernel_rfl) (by kernel_rfl) (by kernel_rfl) (by kernel_rfl)
  have g_VERSION_M2 := glob (C := callee C (fdA P 60) nm_law_SIZES L 60) X.gl X.m2 (by kernel_rfl) (by kernel_rfl) (by kernel_rfl) (by kernel_rfl)
  have g_VERSION_M3 := glob (C := callee C (fdA P 60) nm_law_SIZES L 60) X.gl X.m3 (by kernel_rfl) (by kernel_rfl) (by kernel_rfl) (by kernel_rfl)
  have g_VERSION_M4 := glob (C := callee C (fdA P 60) nm_law_SIZES L 60) X.gl X.m4 (by kernel_rfl) (by kernel_rfl) (by kernel_rfl) (by kernel_rfl)
  exact (s_cons (s_ret (e_lst K (l_cons (e_tup K (l_cons (e_gint K (GlobIs.int g_VERSION_M1)) (l_cons e_int l_nil (fun _ => rfl)) (fun _ => rfl))) (l_cons (e_tup K (l_cons (e_gint K (GlobIs.int g_VERSION_M2)) (l_cons e_int l_nil (fun _ => rfl)) (fun _ => rfl))) (l_cons (e_tup K (l_cons (e_gint K (GlobIs.int g_VERSION_M3)) (l_cons e_int l_nil (fun _ => rfl)) (fun _ => rfl))) (l_cons (e_tup K (l_cons (e_gint K (GlobIs.int g_VERSION_M4)) (l_cons e_int l_nil (fun _ => rfl)) (fun _ => rfl))) (l_cons (e_tup K (l_cons e_int (l_cons e_int l_nil (fun _ => rfl)) (fun _ => rfl))) l_nil (fun _ => rfl)) (fun _ => rfl)) (fun _ => rfl)) (fun _ => rfl)) (fun _ => rfl)))) s_nil)

noncomputable def F_law_SIZES : Fn := fnF 0 0 [] f_law_SIZES
theorem dok_law_SIZES (X : Wd C.W C.fz C.nf P mg mb) : DefOk C (fdA P 60) 60 (bodyOf (fdA P 60)) nm_law_SIZES 0 [] [] where
  obj := X.fn (by kernel_rfl)
  lim := X.gl.lim
  cd := X.cd (by kernel_rfl)
  body := by kernel_rfl
  clo := by kernel_rfl
  co := by kernel_rfl
  gen := by kernel_rfl
  kind := by kernel_rfl
  bind := fun ws s hw hk => by
    obtain rfl : ws = [] := List.eq_nil_of_length_eq_zero hw
    exact BindsTo.of_eq (by kernel_rfl)
  kinds := fun L x hx => by
    have hx : x ∈ ([] : List Str) := hx
    simp only [List.mem_cons, List.not_mem_nil, or_false] at hx
  cells := fun L x c h => by
    have e : cellsFrom (L + 1) (fdA P 60).scope.names [] = [] := by kernel_rfl
    rw [e] at h; cases h
  nd := by decide +kernel
  dfls := fun α => .nil
theorem ok_law_SIZES (X : Wd C.W C.fz C.nf P mg mb) (K : COk C) (hroom : C.A.depth + 5 < recursionLimit) : CO C (.ref 60) F_law_SIZES :=
  ⟨call_def K (by omega) (dok_law_SIZES X) fun L K' => (sim_law_SIZES X K').go⟩

noncomputable def f_law_blank : SF :=
  (consS (assignF 1 (compF [0] (callX (consL (varX 0) nilL) rangeF) (binX .Mult (lstX (consL (intX 2) nilL)) (varX 1)))) (consS (assignF 2 (cmpX .Gt (varX 0) (intX 20))) (consS (forF (nameA 3) (callX (consL (intX 9) nilL) rangeF) (consS (storeF 12 (intX 0) (idxX (varX 1) (intX 8)) (varX 3)) (consS (storeF 12 (intX 0) (idxX (varX 1) (varX 3)) (intX 8)) (consS (ifF (andT (boolT (varX 2)) (cmpT .Gt (varX 3) (intX 0))) (consS (storeF 12 (intX 0) (idxX (varX 1) (intX 8)) (binX .Sub (varX 0) (varX 3))) (consS (storeF 12 (intX 0) (idxX (varX 1) (binX .Sub (varX 0) (varX 3))) (intX 8)) nilS)) nilS) nilS)))) (consS (assignF 4 (iteX (boolT (varX 2)) (intX 6) (intX 0))) (consS (forF (nameA 3) (callX (consL (intX 8) (consL (iteX (boolT (varX 2)) (binX .Sub (varX 0) (intX 8)) (varX 0)) nilL)) rangeF) (consS (storeF 12 (binX .Sub (intX 1) (binX .Mod (varX 3) (intX 2))) (idxX (varX 1) (varX 4)) (varX 3)) (consS (storeF 12 (binX .Sub (intX 1) (binX .Mod (varX 3) (intX 2))) (idxX (varX 1) (varX 3)) (varX 4)) nilS))) (consS (forF (pairA (nameA 5) (nameA 6)) (iteX (boolT (varX 2)) (lstX (consL (tupX (consL (intX 3) (consL (intX 3) nilL))) (consL (tupX (consL (intX 3) (consL (binX .Sub (varX 0) (intX 4)) nilL))) (consL (tupX (consL (binX .Sub (varX 0) (intX 4)) (consL (intX 3) nilL))) nilL)))) (lstX (consL (tupX (consL (intX 3) (consL (intX 3) nilL))) nilL))) (consS (forF (nameA 7) (callX (consL (callX (consL (intX 0) (consL (binX .Sub (varX 5) (intX 4)) nilL)) maxF) (consL (callX (consL (varX 0) (consL (binX .Add (varX 5) (intX 5)) nilL)) minF) nilL)) rangeF) (consS (forF (nameA 8) (callX (consL (callX (consL (intX 0) (consL (binX .Sub (varX 6) (intX 4)) nilL)) maxF) (consL (callX (consL (varX 0) (consL (binX .Add (varX 6) (intX 5)) nilL)) minF) nilL)) rangeF) (consS (assignF 9 (callX (consL (callX (consL (binX .Sub (varX 7) (varX 5)) nilL) absF) (consL (callX (consL (binX .Sub (varX 8) (varX 6)) nilL) absF) nilL)) maxF)) (consS (storeF 12 (idxX (lstX (consL (intX 1) (consL (intX 1) (consL (intX 0) (consL (intX 1) (consL (intX 0) nilL)))))) (varX 9)) (idxX (varX 1) (varX 7)) (varX 8)) nilS))) nilS)) nilS)) (consS (retF (varX 1)) nilS)))))))
theorem sim_law_blank {L : Nat} (X : Wd C.W C.fz C.nf P mg mb) (K : COk (callee C (fdA P 65) nm_law_blank L 65)) : SB (callee C (fdA P 65) nm_law_blank L 65) (bodyOf (fdA P 65)) f_law_blank := by
  have X : Wd (callee C (fdA P 65) nm_law_blank L 65).W (callee C (fdA P 65) nm_law_blank L 65).fz (callee C (fdA P 65) nm_law_blank L 65).nf P mg mb := X
  have a_size : At (callee C (fdA P 65) nm_law_blank L 65).names "size" 0 := .here
  have k_size : (callee C (fdA P 65) nm_law_blank L 65).env.kindOf "size" = some .cell := by kernel_rfl
  have c_size : (callee C (fdA P 65) nm_law_blank L 65).env.cells.lookup ("size" : Str) = some (L + 1) := by kernel_rfl
  have d_size : (("size" : Str) == ("__debug__" : Str)) = false := by kernel_rfl
  have a_picture : At (callee C (fdA P 65) nm_law_blank L 65).names "picture" 1 := (.there .here)
  have k_picture : (callee C (fdA P 65) nm_law_blank L 65).env.kindOf "picture" = some .local := by kernel_rfl
  have c_picture : (callee C (fdA P 65) nm_law_blank L 65).env.cells.lookup ("picture" : Str) = none := by kernel_rfl
  have d_picture : (("picture" : Str) == ("__debug__" : Str)) = false := by kernel_rfl
  have a_great : At (callee C (fdA P 65) nm_law_blank L 65).names "great" 2 := (.there (.there .here))
  have k_great : (callee C (fdA P 65) nm_law_blank L 65).env.kindOf "great" = some .local := by kernel_rfl
  have c_great : (callee C (fdA P 65) nm_law_blank L 65).env.cells.lookup ("great" : Str) = none := by kernel_rfl
  have d_great : (("great" : Str) == ("__debug__" : Str)) = false := by kernel_rfl
  have a_place : At (callee C (fdA P 65) nm_law_blank L 65).names "place" 3 := (.there (.there (.there .here)))
  have k_place : (callee C (fdA P 65) nm_law_blank L 65).env.kindOf "place" = some .local := by kernel_rfl
  have c_place : (callee C (fdA P 65) nm_law_blank L 65).env.cells.lookup ("place" : Str) = none := by kernel_rfl
  have d_place : (("place" : Str) == ("__debug__" : Str)) = false := by kernel_rfl
  have a_line : At (callee C (fdA P 65) nm_law_blank L 65).names "line" 4 := (.there (.there (.there (.there .here))))
  have k_line : (callee C (fdA P 65) nm_law_blank L 65).env.kindOf "line" = some .local := by kernel_rfl
  have c_line : (callee C (fdA P 65) nm_law_blank L 65).env.cells.lookup ("line" : Str) = none := by kernel_rfl
  have d_line : (("line" : Str) == ("__debug__" : Str)) = false := by kernel_rfl
  have a_down : At (callee C (fdA P 65) nm_law_blank L 65).names "down" 5 := (.there (.there (.there (.there (.there .here)))))
  have k_down : (callee C (fdA P 65) nm_law_blank L 65).env.kindOf "down" = some .local := by kernel_rfl
  have c_down : (callee C (fdA P 65) nm_law_blank L 65).env.cells.lookup ("down" : Str) = none := by kernel_rfl
  have d_down : (("down" : Str) == ("__debug__" : Str)) = false := by kernel_rfl
  have a_right : At (callee C (fdA P 65) nm_law_blank L 65).names "right" 6 := (.there (.there (.there (.there (.there (.there .here))))))
  have k_right : (callee C (fdA P 65) nm_law_blank L 65).env.kindOf "right" = some .local := by kernel_rfl
  have c_right : (callee C (fdA P 65) nm_law_blank L 65).env.cells.lookup ("right" : Str) = none := by kernel_rfl
  have d_right : (("right" : Str) == ("__debug__" : Str)) = false := by kernel_rfl
  have a_i : At (callee C (fdA P 65) nm_law_blank L 65).names "i" 7 := (.there (.there (.there (.there (.there (.there (.there .here)))))))
  have k_i : (callee C (fdA P 65) nm_law_blank L 65).env.kindOf "i" = some .local := by kernel_rfl
  have c_i : (callee C (fdA P 65) nm_law_blank L 65).env.cells.lookup ("i" : Str) = none := by kernel_rfl
  have d_i : (("i" : Str) == ("__debug__" : Str)) = false := by kernel_rfl
  have a_j : At (callee C (fdA P 65) nm_law_blank L 65).names "j" 8 := (.there (.there (.there (.there (.there (.there (.there (.there .here))))))))
  have k_j : (callee C (fdA P 65) nm_law_blank L 65).env.kindOf "j" = some .local := by kernel_rfl
  have c_j : (callee C (fdA P 65) nm_law_blank L 65).env.cells.lookup ("j" : Str) = none := by kernel_rfl
  have d_j : (("j" : Str) == ("__debug__" : Str)) = false := by kernel_rfl
  have a_ring : At (callee C (fdA P 65) nm_law_blank L 65).names "ring" 9 := (.there (.there (.there (.there (.there (.there (.there (.there (.there .here)))))))))
  have k_ring : (callee C (fdA P 65) nm_law_blank L 65).env.kindOf "ring" = some .local := by kernel_rfl
  have c_ring : (callee C (fdA P 65) nm_law_blank L 65).env.cells.lookup ("ring" : Str) = none := by kernel_rfl
  have d_ring : (("ring" : Str) == ("__debug__" : Str)) = false := by kernel_rfl
  have g_abs : GlobIs (callee C (fdA P 65) nm_law_blank L 65) "abs" (· = .builtin "abs") := X.built (by decide +kernel) (by kernel_rfl) (by kernel_rfl) (by kernel_rfl) (by kernel_rfl) (by kernel_rfl) (by kernel_rfl)
  have g_max : GlobIs (callee C (fdA P 65) nm_law_blank L 65) "max" (· = .builtin "max") := X.built (by decide +kernel) (by kernel_rfl) (by kernel_rfl) (by kernel_rfl) (by kernel_rfl) (by kernel_rfl) (by kernel_rfl)
  have g_min : GlobIs (callee C (fdA P 65) nm_law_blank L 65) "min" (· = .builtin "min") := X.built (by decide +kernel) (by kernel_rfl) (by kernel_rfl) (by kernel_rfl) (by kernel_rfl) (by kernel_rfl) (by kernel_rfl)
  have g_range : GlobIs (callee C (fdA P 65) nm_law_blank L 65) "range" (· = .type "range") := X.built (by decide +kernel) (by kernel_rfl) (by kernel_rfl) (by kernel_rfl) (by kernel_rfl) (by kernel_rfl) (by kernel_rfl)
  exact (s_cons (s_comp K (n_L K a_picture k_picture c_picture) (compOk1 (by kernel_rfl) (by kernel_rfl) (by decide +kernel) (by decide +kernel) (by kernel_rfl) (by kernel_rfl) c_size a_size (fun L => by kernel_rfl)) (e_callT g_range (l_cons (e_varC K a_size k_size c_size d_size) l_nil (fun _ => rfl)) (o_range K) (fun _ => rfl) (fun _ => rfl) (fun _ => rfl)) (fun L' K' => by exact (e_bin K' (e_lst K' (l_cons e_int l_nil (fun _ => rfl))) (e_varC (c := L + 1) K' (.there .here) (by kernel_rfl) (by kernel_rfl) (by kernel_rfl)))) (fun _ => rfl) rfl) (s_cons (s_assign (n_L K a_great k_great c_great) (e_cmp (e_varC K a_size k_size c_size d_size) e_int rfl) rfl) (s_cons (s_for K (a_name (n_L K a_place k_place c_place)) (e_callT g_range (l_cons e_int l_nil (fun _ => rfl)) (o_range K) (fun _ => rfl) (fun _ => rfl) (fun _ => rfl)) (s_cons (s_store X.nf e_int (e_idx (e_varL K a_picture k_picture d_picture) e_int (fun _ _ _ => rfl)) (e_varL K a_place k_place d_place) rfl rfl rfl) (s_cons (s_store X.nf e_int (e_idx (e_varL K a_picture k_picture d_picture) (e_varL K a_place k_place d_place) (fun _ _ _ => rfl)) e_int rfl rfl rfl) (s_cons (s_if (t_and (t_val (e_varL K a_great k_great d_great) (fun _ _ => rfl)) (t_cmp (e_varL K a_place k_place d_place) e_int rfl)) (s_cons (s_store X.nf e_int (e_idx (e_varL K a_picture k_picture d_picture) e_int (fun _ _ _ => rfl)) (e_bin K (e_varC K a_size k_size c_size d_size) (e_varL K a_place k_place d_place)) rfl rfl rfl) (s_cons (s_store X.nf e_int (e_idx (e_varL K a_picture k_picture d_picture) (e_bin K (e_varC K a_size k_size c_size d_size) (e_varL K a_place k_place d_place)) (fun _ _ _ => rfl)) e_int rfl rfl rfl) s_nil)) s_nil) s_nil))) (fun _ => rfl)) (s_cons (s_assign (n_L K a_line k_line c_line) (e_ite (t_val (e_varL K a_great k_great d_great) (fun _ _ => rfl)) e_int e_int) rfl) (s_cons (s_for K (a_name (n_L K a_place k_place c_place)) (e_callT g_range (l_cons e_int (l_cons (e_ite (t_val (e_varL K a_great k_great d_great) (fun _ _ => rfl)) (e_bin K (e_varC K a_size k_size c_size d_size) e_int) (e_varC K a_size k_size c_size d_size)) l_nil (fun _ => rfl)) (fun _ => rfl)) (o_range K) (fun _ => rfl) (fun _ => rfl) (fun _ => rfl)) (s_cons (s_store X.nf (e_bin K e_int (e_bin K (e_varL K a_place k_place d_place) e_int)) (e_idx (e_varL K a_picture k_picture d_picture) (e_varL K a_line k_line d_line) (fun _ _ _ => rfl)) (e_varL K a_place k_place d_place) rfl rfl rfl) (s_cons (s_store X.nf (e_bin K e_int (e_bin K (e_varL K a_place k_place d_place) e_int)) (e_idx (e_varL K a_picture k_picture d_picture) (e_varL K a_place k_place d_place) (fun _ _ _ => rfl)) (e_varL K a_line k_line d_line) rfl rfl rfl) s_nil)) (fun _ => rfl)) (s_cons (s_for K (a_pair K (a_name (n_L K a_down k_down c_down)) (a_name (n_L K a_right k_right c_right)) rfl) (e_ite (t_val (e_varL K a_great k_great d_great) (fun _ _ => rfl)) (e_lst K (l_cons (e_tup K (l_cons e_int (l_cons e_int l_nil (fun _ => rfl)) (fun _ => rfl))) (l_cons (e_tup K (l_cons e_int (l_cons (e_bin K (e_varC K a_size k_size c_size d_size) e_int) l_nil (fun _ => rfl)) (fun _ => rfl))) (l_cons (e_tup K (l_cons (e_bin K (e_varC K a_size k_size c_size d_size) e_int) (l_cons e_int l_nil (fun _ => rfl)) (fun _ => rfl))) l_nil (fun _ => rfl)) (fun _ => rfl)) (fun _ => rfl))) (e_lst K (l_cons (e_tup K (l_cons e_int (l_cons e_int l_nil (fun _ => rfl)) (fun _ => rfl))) l_nil (fun _ => rfl)))) (s_cons (s_for K (a_name (n_L K a_i k_i c_i)) (e_callT g_range (l_cons (e_callB g_max (l_cons e_int (l_cons (e_bin K (e_varL K a_down k_down d_down) e_int) l_nil (fun _ => rfl)) (fun _ => rfl)) (o_max K) (fun _ => rfl) (fun _ => rfl) (fun _ => rfl)) (l_cons (e_callB g_min (l_cons (e_varC K a_size k_size c_size d_size) (l_cons (e_bin K (e_varL K a_down k_down d_down) e_int) l_nil (fun _ => rfl)) (fun _ => rfl)) (o_min K) (fun _ => rfl) (fun _ => rfl) (fun _ => rfl)) l_nil (fun _ => rfl)) (fun _ => rfl)) (o_range K) (fun _ => rfl) (fun _ => rfl) (fun _ => rfl)) (s_cons (s_for K (a_name (n_L K a_j k_j c_j)) (e_callT g_range (l_cons (e_callB g_max (l_cons e_int (l_cons (e_bin K (e_varL K a_right k_right d_right) e_int) l_nil (fun _ => rfl)) (fun _ => rfl)) (o_max K) (fun _ => rfl) (fun _ => rfl) (fun _ => rfl)) (l_cons (e_callB g_min (l_cons (e_varC K a_size k_size c_size d_size) (l_cons (e_bin K (e_varL K a_right k_right d_right) e_int) l_nil (fun _ => rfl)) (fun _ => rfl)) (o_min K) (fun _ => rfl) (fun _ => rfl) (fun _ => rfl)) l_nil (fun _ => rfl)) (fun _ => rfl)) (o_range K) (fun _ => rfl) (fun _ => rfl) (fun _ => rfl)) (s_cons (s_assign (n_L K a_ring k_ring c_ring) (e_callB g_max (l_cons (e_callB g_abs (l_cons (e_bin K (e_varL K a_i k_i d_i) (e_varL K a_down k_down d_down)) l_nil (fun _ => rfl)) o_abs (fun _ => rfl) (fun _ => rfl) (fun _ => rfl)) (l_cons (e_callB g_abs (l_cons (e_bin K (e_varL K a_j k_j d_j) (e_varL K a_right k_right d_right)) l_nil (fun _ => rfl)) o_abs (fun _ => rfl) (fun _ => rfl) (fun _ => rfl)) l_nil (fun _ => rfl)) (fun _ => rfl)) (o_max K) (fun _ => rfl) (fun _ => rfl) (fun _ => rfl)) rfl) (s_cons (s_store X.nf (e_idx (e_lst K (l_cons e_int (l_cons e_int (l_cons e_int (l_cons e_int (l_cons e_int l_nil (fun _ => rfl)) (fun _ => rfl)) (fun _ => rfl)) (fun _ => rfl)) (fun _ => rfl))) (e_varL K a_ring k_ring d_ring) (fun _ _ _ => rfl)) (e_idx (e_varL K a_picture k_picture d_picture) (e_varL K a_i k_i d_i) (fun _ _ _ => rfl)) (e_varL K a_j k_j d_j) rfl rfl rfl) s_nil)) (fun _ => rfl)) s_nil) (fun _ => rfl)) s_nil) (fun _ => rfl)) (s_cons (s_ret (e_varL K a_picture k_picture d_picture)) s_nil)))))))

noncomputable def F_law_blank : Fn := fnF 1 9 [] f_law_blank
theorem dok_law_blank (X : Wd C.W C.fz C.nf P mg mb) : DefOk C (fdA P 65) 65 (bodyOf (fdA P 65)) nm_law_blank 1 [] [] where
  obj := X.fn (by kernel_rfl)
  lim := X.gl.lim
  cd := X.cd (by kernel_rfl)
  body := by kernel_rfl
  clo := by kernel_rfl
  co := by kernel_rfl
  gen := by kernel_rfl
  kind := by kernel_rfl
  bind := fun ws s hw hk => by
    obtain ⟨v0, rfl⟩ : ∃ v0, ws = [v0] := by
      match ws, hw with
      | [v0], _ => exact ⟨v0, rfl⟩
    exact BindsTo.of_eq (by kernel_rfl)
  kinds := fun L x hx => by
    have hx : x ∈ (["size"] : List Str) := hx
    simp only [List.mem_cons, List.not_mem_nil, or_false] at hx
    rcases hx with rfl
    · exact .inr ⟨by kernel_rfl, by kernel_rfl⟩
  cells := fun L x c h => by
    have e : cellsFrom (L + 1) (fdA P 65).scope.names [] = [(("size" : Str), L + 1)] := by kernel_rfl
    rw [e] at h
    simp only [List.lookup] at h
    split at h
    · rename_i e2
      obtain rfl : x = ("size" : Str) := by simpa using e2
      have e3 : (fdA P 65).scope.names.lookup ("size" : Str) = some .cell := by kernel_rfl
      rw [e3]; nofun
    · cases h
  nd := by decide +kernel
  dfls := fun α => .nil
theorem ok_law_blank (X : Wd C.W C.fz C.nf P mg mb) (K : COk C) (hroom : C.A.depth + 5 < recursionLimit) : CO C (.ref 65) F_law_blank :=
  ⟨call_def K (by omega) (dok_law_blank X) fun L K' => (sim_law_blank X K').go⟩

noncomputable def f_law_spots : SF :=
  (consS (assignF 2 (lstX nilL)) (consS (assignF 3 (boolX true)) (consS (assignF 4 (binX .Sub (varX 1) (intX 1))) (consS (whileF 30 (cmpT .Gt (varX 4) (intX 0)) (consS (ifF (andT (cmpT .Gt (varX 1) (intX 20)) (cmpT .Eq (varX 4) (intX 6))) (consS (assignF 4 (intX 5)) nilS) nilS) (consS (forF (nameA 5) (callX (consL (varX 1) nilL) rangeF) (consS (assignF 6 (iteX (boolT (varX 3)) (binX .Sub (binX .Sub (varX 1) (intX 1)) (varX 5)) (varX 5))) (consS (forF (nameA 7) (lstX (consL (varX 4) (consL (binX .Sub (varX 4) (intX 1)) nilL))) (consS (ifF (cmpT .Eq (idxX (idxX (varX 0) (varX 6)) (varX 7)) (intX 2)) (consS (appF 12 (varX 2) (tupX (consL (varX 6) (consL (varX 7) nilL)))) nilS) nilS) nilS)) nilS))) (consS (assignF 3 (notX (varX 3))) (consS (augF 4 .Sub (intX 2)) nilS))))) (consS (retF (varX 2)) nilS)))))
theorem sim_law_spots {L : Nat} (X : Wd C.W C.fz C.nf P mg mb) (K : COk (callee C (fdA P 72) nm_law_spots L 72)) : SB (callee C (fdA P 72) nm_law_spots L 72) (bodyOf (fdA P 72)) f_law_spots := by
  have X : Wd (callee C (fdA P 72) nm_law_spots L 72).W (callee C (fdA P 72) nm_law_spots L 72).fz (callee C (fdA P 72) nm_law_spots L 72).nf P mg mb := X
  have a_picture : At (callee C (fdA P 72) nm_law_spots L 72).names "picture" 0 := .here
  have k_picture : (callee C (fdA P 72) nm_law_spots L 72).env.kindOf "picture" = some .local := by kernel_rfl
  have c_picture : (callee C (fdA P 72) nm_law_spots L 72).env.cells.lookup ("picture" : Str) = none := by kernel_rfl
  have d_picture : (("picture" : Str) == ("__debug__" : Str)) = false := by kernel_rfl
  have a_size : At (callee C (fdA P 72) nm_law_spots L 72).names "size" 1 := (.there .here)
  have k_size : (callee C (fdA P 72) nm_law_spots L 72).env.kindOf "size" = some .local := by kernel_rfl
  have c_size : (callee C (fdA P 72) nm_law_spots L 72).env.cells.lookup ("size" : Str) = none := by kernel_rfl
  have d_size : (("size" : Str) == ("__debug__" : Str)) = false := by kernel_rfl
  have a_spots : At (callee C (fdA P 72) nm_law_spots L 72).names "spots" 2 := (.there (.there .here))
  have k_spots : (callee C (fdA P 72) nm_law_spots L 72).env.kindOf "spots" = some .local := by kernel_rfl
  have c_spots : (callee C (fdA P 72) nm_law_spots L 72).env.cells.lookup ("spots" : Str) = none := by kernel_rfl
  have d_spots : (("spots" : Str) == ("__debug__" : Str)) = false := by kernel_rfl
  have a_up : At (callee C (fdA P 72) nm_law_spots L 72).names "up" 3 := (.there (.there (.there .here)))
  have k_up : (callee C (fdA P 72) nm_law_spots L 72).env.kindOf "up" = some .local := by kernel_rfl
  have c_up : (callee C (fdA P 72) nm_law_spots L 72).env.cells.lookup ("up" : Str) = none := by kernel_rfl
  have d_up : (("up" : Str) == ("__debug__" : Str)) = false := by kernel_rfl
  have a_right : At (callee C (fdA P 72) nm_law_spots L 72).names "right" 4 := (.there (.there (.there (.there .here))))
  have k_right : (callee C (fdA P 72) nm_law_spots L 72).env.kindOf "right" = some .local := by kernel_rfl
  have c_right : (callee C (fdA P 72) nm_law_spots L 72).env.cells.lookup ("right" : Str) = none := by kernel_rfl
  have d_right : (("right" : Str) == ("__debug__" : Str)) = false := by kernel_rfl
  have a_step : At (callee C (fdA P 72) nm_law_spots L 72).names "step" 5 := (.there (.there (.there (.there (.there .here)))))
  have k_step : (callee C (fdA P 72) nm_law_spots L 72).env.kindOf "step" = some .local := by kernel_rfl
  have c_step : (callee C (fdA P 72) nm_law_spots L 72).env.cells.lookup ("step" : Str) = none := by kernel_rfl
  have d_step : (("step" : Str) == ("__debug__" : Str)) = false := by kernel_rfl
  have a_i : At (callee C (fdA P 72) nm_law_spots L 72).names "i" 6 := (.there (.there (.there (.there (.there (.there .here))))))
  have k_i : (callee C (fdA P 72) nm_law_spots L 72).env.kindOf "i" = some .local := by kernel_rfl
  have c_i : (callee C (fdA P 72) nm_law_spots L 72).env.cells.lookup ("i" : Str) = none := by kernel_rfl
  have d_i : (("i" : Str) == ("__debug__" : Str)) = false := by kernel_rfl
  have a_j : At (callee C (fdA P 72) nm_law_spots L 72).names "j" 7 := (.there (.there (.there (.there (.there (.there (.there .here)))))))
  have k_j : (callee C (fdA P 72) nm_law_spots L 72).env.kindOf "j" = some .local := by kernel_rfl
  have c_j : (callee C (fdA P 72) nm_law_spots L 72).env.cells.lookup ("j" : Str) = none := by kernel_rfl
  have d_j : (("j" : Str) == ("__debug__" : Str)) = false := by kernel_rfl
  have g_range : GlobIs (callee C (fdA P 72) nm_law_spots L 72) "range" (· = .type "range") := X.built (by decide +kernel) (by kernel_rfl) (by kernel_rfl) (by kernel_rfl) (by kernel_rfl) (by kernel_rfl) (by kernel_rfl)
  exact (s_cons (s_assign (n_L K a_spots k_spots c_spots) (e_lst K l_nil) rfl) (s_cons (s_assign (n_L K a_up k_up c_up) e_bool rfl) (s_cons (s_assign (n_L K a_right k_right c_right) (e_bin K (e_varL K a_size k_size d_size) e_int) rfl) (s_cons (s_while 30 (t_cmp (e_varL K a_right k_right d_right) e_int rfl) (s_cons (s_if (t_and (t_cmp (e_varL K a_size k_size d_size) e_int rfl) (t_cmp (e_varL K a_right k_right d_right) e_int rfl)) (s_cons (s_assign (n_L K a_right k_right c_right) e_int rfl) s_nil) s_nil) (s_cons (s_for K (a_name (n_L K a_step k_step c_step)) (e_callT g_range (l_cons (e_varL K a_size k_size d_size) l_nil (fun _ => rfl)) (o_range K) (fun _ => rfl) (fun _ => rfl) (fun _ => rfl)) (s_cons (s_assign (n_L K a_i k_i c_i) (e_ite (t_val (e_varL K a_up k_up d_up) (fun _ _ => rfl)) (e_bin K (e_bin K (e_varL K a_size k_size d_size) e_int) (e_varL K a_step k_step d_step)) (e_varL K a_step k_step d_step)) rfl) (s_cons (s_for K (a_name (n_L K a_j k_j c_j)) (e_lst K (l_cons (e_varL K a_right k_right d_right) (l_cons (e_bin K (e_varL K a_right k_right d_right) e_int) l_nil (fun _ => rfl)) (fun _ => rfl))) (s_cons (s_if (t_cmp (e_idx (e_idx (e_varL K a_picture k_picture d_picture) (e_varL K a_i k_i d_i) (fun _ _ _ => rfl)) (e_varL K a_j k_j d_j) (fun _ _ _ => rfl)) e_int rfl) (s_cons (s_append X.nf (e_varL K a_spots k_spots d_spots) (e_tup K (l_cons (e_varL K a_i k_i d_i) (l_cons (e_varL K a_j k_j d_j) l_nil (fun _ => rfl)) (fun _ => rfl))) ⟨_, rfl⟩ rfl rfl rfl) s_nil) s_nil) s_nil) (fun _ => rfl)) s_nil)) (fun _ => rfl)) (s_cons (s_assign (n_L K a_up k_up c_up) (e_not (e_varL K a_up k_up d_up)) rfl) (s_cons (s_aug K a_right k_right (n_L K a_right k_right c_right) e_int) s_nil))))) (s_cons (s_ret (e_varL K a_spots k_spots d_spots)) s_nil)))))

noncomputable def F_law_spots : Fn := fnF 2 6 [] f_law_spots
theorem dok_law_spots (X : Wd C.W C.fz C.nf P mg mb) : DefOk C (fdA P 72) 72 (bodyOf (fdA P 72)) nm_law_spots 2 [] [] where
  obj := X.fn (by kernel_rfl)
  lim := X.gl.lim
  cd := X.cd (by kernel_rfl)
  body := by kernel_rfl
  clo := by kernel_rfl
  co := by kernel_rfl
  gen := by kernel_rfl
  kind := by kernel_rfl
  bind := fun ws s hw hk => by
    obtain ⟨v0, v1, rfl⟩ : ∃ v0 v1, ws = [v0, v1] := by
      match ws, hw with
      | [v0, v1], _ => exact ⟨v0, v1, rfl⟩
    exact BindsTo.of_eq (by kernel_rfl)
  kinds := fun L x hx => by
    have hx : x ∈ (["picture", "size"] : List Str) := hx
    simp only [List.mem_cons, List.not_mem_nil, or_false] at hx
    rcases hx with rfl | rfl
    · exact .inl (by kernel_rfl)
    · exact .inl (by kernel_rfl)
  cells := fun L x c h => by
    have e : cellsFrom (L + 1) (fdA P 72).scope.names [] = [] := by kernel_rfl
    rw [e] at h; cases h
  nd := by decide +kernel
  dfls := fun α => .nil
theorem ok_law_spots (X : Wd C.W C.fz C.nf P mg mb) (K : COk C) (hroom : C.A.depth + 5 < recursionLimit) : CO C (.ref 72) F_law_spots :=
  ⟨call_def K (by omega) (dok_law_spots X) fun L K' => (sim_law_spots X K').go⟩

noncomputable def f_add_codewords : SF :=
  (consS (assignF 3 (callX (consL (varX 0) nilL) lenF)) (consS (assignF 4 (cmpX .Lt (varX 2) (intX 1))) (consS (assignF 5 (iteX (cmpT .NotIn (varX 2) (tupX (consL (intX (-3)) (consL (intX (-1)) nilL)))) (intX 0) (intX 2))) (consS (assignF 6 (intX 0)) (consS (assignF 7 (callX (consL (varX 1) nilL) lenF)) (consS (assignF 8 (callX (consL (intX 2) nilL) rangeF)) (consS (forF (nameA 9) (callX (consL (binX .Sub (varX 3) (intX 1)) (consL (intX 0) (consL (negX (intX 2)) nilL))) rangeF) (consS (ifF (andT (notT (boolT (varX 4))) (cmpT .LtE (varX 9) (intX 6))) (consS (augF 9 .Sub (intX 1)) nilS) nilS) (consS (forF (nameA 10) (callX (consL (varX 3) nilL) rangeF) (consS (forF (nameA 11) (varX 8) (consS (assignF 12 (binX .Sub (varX 9) (varX 11))) (consS (assignF 13 (cmpX .Eq (binX .BitAnd (binX .Add (varX 9) (varX 5)) (intX 2)) (intX 0))) (consS (ifF (notT (boolT (varX 4))) (consS (augF 13 .BitXor (cmpX .Lt (varX 12) (intX 6))) nilS) nilS) (consS (assignF 14 (iteX (boolT (varX 13)) (binX .Sub (binX .Sub (varX 3) (intX 1)) (varX 10)) (varX 10))) (consS (assignF 15 (idxX (varX 0) (varX 14))) (consS (ifF (andT (cmpT .Eq (idxX (varX 15) (varX 12)) (intX 2)) (cmpT .Lt (varX 6) (varX 7))) (consS (storeF 12 (idxX (varX 1) (varX 6)) (varX 15) (varX 12)) (consS (augF 6 .Add (intX 1)) nilS)) nilS) nilS))))))) nilS)) nilS))) (consS (ifF (cmpT .NotEq (varX 6) (callX (consL (varX 1) nilL) lenF)) failS nilS) nilS))))))))
theorem sim_add_codewords {L : Nat} (X : Wd C.W C.fz C.nf P mg mb) (K : COk (callee C (fdA P 45) nm_add_codewords L 45)) : SB (callee C (fdA P 45) nm_add_codewords L 45) (bodyOf (fdA P 45)) f_add_codewords := by
  have X : Wd (callee C (fdA P 45) nm_add_codewords L 45).W (callee C (fdA P 45) nm_add_codewords L 45).fz (callee C (fdA P 45) nm_add_codewords L 45).nf P mg mb := X
  have a_matrix : At (callee C (fdA P 45) nm_add_codewords L 45).names "matrix" 0 := .here
  have k_matrix : (callee C (fdA P 45) nm_add_codewords L 45).env.kindOf "matrix" = some .local := by kernel_rfl
  have c_matrix : (callee C (fdA P 45) nm_add_codewords L 45).env.cells.lookup ("matrix" : Str) = none := by kernel_rfl
  have d_matrix : (("matrix" : Str) == ("__debug__" : Str)) = false := by kernel_rfl
  have a_codewords : At (callee C (fdA P 45) nm_add_codewords L 45).names "codewords" 1 := (.there .here)
  have k_codewords : (callee C (fdA P 45) nm_add_codewords L 45).env.kindOf "codewords" = some .local := by kernel_rfl
  have c_codewords : (callee C (fdA P 45) nm_add_codewords L 45).env.cells.lookup ("codewords" : Str) = none := by kernel_rfl
  have d_codewords : (("codewords" : Str) == ("__debug__" : Str)) = false := by kernel_rfl
  have a_version : At (callee C (fdA P 45) nm_add_codewords L 45).names "version" 2 := (.there (.there .here))
  have k_version : (callee C (fdA P 45) nm_add_codewords L 45).env.kindOf "version" = some .local := by kernel_rfl
  have c_version : (callee C (fdA P 45) nm_add_codewords L 45).env.cells.lookup ("version" : Str) = none := by kernel_rfl
  have d_version : (("version" : Str) == ("__debug__" : Str)) = false := by kernel_rfl
  have a_matrix_size : At (callee C (fdA P 45) nm_add_codewords L 45).names "matrix_size" 3 := (.there (.there (.there .here)))
  have k_matrix_size : (callee C (fdA P 45) nm_add_codewords L 45).env.kindOf "matrix_size" = some .local := by kernel_rfl
  have c_matrix_size : (callee C (fdA P 45) nm_add_codewords L 45).env.cells.lookup ("matrix_size" : Str) = none := by kernel_rfl
  have d_matrix_size : (("matrix_size" : Str) == ("__debug__" : Str)) = false := by kernel_rfl
  have a_is_micro : At (callee C (fdA P 45) nm_add_codewords L 45).names "is_micro" 4 := (.there (.there (.there (.there .here))))
  have k_is_micro : (callee C (fdA P 45) nm_add_codewords L 45).env.kindOf "is_micro" = some .local := by kernel_rfl
  have c_is_micro : (callee C (fdA P 45) nm_add_codewords L 45).env.cells.lookup ("is_micro" : Str) = none := by kernel_rfl
  have d_is_micro : (("is_micro" : Str) == ("__debug__" : Str)) = false := by kernel_rfl
  have a_inc : At (callee C (fdA P 45) nm_add_codewords L 45).names "inc" 5 := (.there (.there (.there (.there (.there .here)))))
  have k_inc : (callee C (fdA P 45) nm_add_codewords L 45).env.kindOf "inc" = some .local := by kernel_rfl
  have c_inc : (callee C (fdA P 45) nm_add_codewords L 45).env.cells.lookup ("inc" : Str) = none := by kernel_rfl
  have d_inc : (("inc" : Str) == ("__debug__" : Str)) = false := by kernel_rfl
  have a_idx : At (callee C (fdA P 45) nm_add_codewords L 45).names "idx" 6 := (.there (.there (.there (.there (.there (.there .here))))))
  have k_idx : (callee C (fdA P 45) nm_add_codewords L 45).env.kindOf "idx" = some .local := by kernel_rfl
  have c_idx : (callee C (fdA P 45) nm_add_codewords L 45).env.cells.lookup ("idx" : Str) = none := by kernel_rfl
  have d_idx : (("idx" : Str) == ("__debug__" : Str)) = false := by kernel_rfl
  have a_codeword_length : At (callee C (fdA P 45) nm_add_codewords L 45).names "codeword_length" 7 := (.there (.there (.there (.there (.there (.there (.there .here)))))))
  have k_codeword_length : (callee C (fdA P 45) nm_add_codewords L 45).env.kindOf "codeword_length" = some .local := by kernel_rfl
  have c_codeword_length : (callee C (fdA P 45) nm_add_codewords L 45).env.cells.lookup ("codeword_length" : Str) = none := by kernel_rfl
  have d_codeword_length : (("codeword_length" : Str) == ("__debug__" : Str)) = false := by kernel_rfl
  have a_range_two : At (callee C (fdA P 45) nm_add_codewords L 45).names "range_two" 8 := (.there (.there (.there (.there (.there (.there (.there (.there .here))))))))
  have k_range_two : (callee C (fdA P 45) nm_add_codewords L 45).env.kindOf "range_two" = some .local := by kernel_rfl
  have c_range_two : (callee C (fdA P 45) nm_add_codewords L 45).env.cells.lookup ("range_two" : Str) = none := by kernel_rfl
  have d_range_two : (("range_two" : Str) == ("__debug__" : Str)) = false := by kernel_rfl
  have a_right : At (callee C (fdA P 45) nm_add_codewords L 45).names "right" 9 := (.there (.there (.there (.there (.there (.there (.there (.there (.there .here)))))))))
  have k_right : (callee C (fdA P 45) nm_add_codewords L 45).env.kindOf "right" = some .local := by kernel_rfl
  have c_right : (callee C (fdA P 45) nm_add_codewords L 45).env.cells.lookup ("right" : Str) = none := by kernel_rfl
  have d_right : (("right" : Str) == ("__debug__" : Str)) = false := by kernel_rfl
  have a_vertical : At (callee C (fdA P 45) nm_add_codewords L 45).names "vertical" 10 := (.there (.there (.there (.there (.there (.there (.there (.there (.there (.there .here))))))))))
  have k_vertical : (callee C (fdA P 45) nm_add_codewords L 45).env.kindOf "vertical" = some .local := by kernel_rfl
  have c_vertical : (callee C (fdA P 45) nm_add_codewords L 45).env.cells.lookup ("vertical" : Str) = none := by kernel_rfl
  have d_vertical : (("vertical" : Str) == ("__debug__" : Str)) = false := by kernel_rfl
  have a_z : At (callee C (fdA P 45) nm_add_codewords L 45).names "z" 11 := (.there (.there (.there (.there (.there (.there (.there (.there (.there (.there (.there .here)))))))))))
  have k_z : (callee C (fdA P 45) nm_add_codewords L 45).env.kindOf "z" = some .local := by kernel_rfl
  have c_z : (callee C (fdA P 45) nm_add_codewords L 45).env.cells.lookup ("z" : Str) = none := by kernel_rfl
  have d_z : (("z" : Str) == ("__debug__" : Str)) = false := by kernel_rfl
  have a_j : At (callee C (fdA P 45) nm_add_codewords L 45).names "j" 12 := (.there (.there (.there (.there (.there (.there (.there (.there (.there (.there (.there (.there .here))))))))))))
  have k_j : (callee C (fdA P 45) nm_add_codewords L 45).env.kindOf "j" = some .local := by kernel_rfl
  have c_j : (callee C (fdA P 45) nm_add_codewords L 45).env.cells.lookup ("j" : Str) = none := by kernel_rfl
  have d_j : (("j" : Str) == ("__debug__" : Str)) = false := by kernel_rfl
  have a_upwards : At (callee C (fdA P 45) nm_add_codewords L 45).names "upwards" 13 := (.there (.there (.there (.there (.there (.there (.there (.there (.there (.there (.there (.there (.there .here)))))))))))))
  have k_upwards : (callee C (fdA P 45) nm_add_codewords L 45).env.kindOf "upwards" = some .local := by kernel_rfl
  have c_upwards : (callee C (fdA P 45) nm_add_codewords L 45).env.cells.lookup ("upwards" : Str) = none := by kernel_rfl
  have d_upwards : (("upwards" : Str) == ("__debug__" : Str)) = false := by kernel_rfl
  have a_i : At (callee C (fdA P 45) nm_add_codewords L 45).names "i" 14 := (.there (.there (.there (.there (.there (.there (.there (.there (.there (.there (.there (.there (.there (.there .here))))))))))))))
  have k_i : (callee C (fdA P 45) nm_add_codewords L 45).env.kindOf "i" = some .local := by kernel_rfl
  have c_i : (callee C (fdA P 45) nm_add_codewords L 45).env.cells.lookup ("i" : Str) = none := by kernel_rfl
  have d_i : (("i" : Str) == ("__debug__" : Str)) = false := by kernel_rfl
  have a_row : At (callee C (fdA P 45) nm_add_codewords L 45).names "row" 15 := (.there (.there (.there (.there (.there (.there (.there (.there (.there (.there (.there (.there (.there (.there (.there .here)))))))))))))))
  have k_row : (callee C (fdA P 45) nm_add_codewords L 45).env.kindOf "row" = some .local := by kernel_rfl
  have c_row : (callee C (fdA P 45) nm_add_codewords L 45).env.cells.lookup ("row" : Str) = none := by kernel_rfl
  have d_row : (("row" : Str) == ("__debug__" : Str)) = false := by kernel_rfl
  have g_VERSION_M1 := glob (C := callee C (fdA P 45) nm_add_codewords L 45) X.gl X.m1 (by kernel_rfl) (by kernel_rfl) (by kernel_rfl) (by kernel_rfl)
  have g_VERSION_M3 := glob (C := callee C (fdA P 45) nm_add_codewords L 45) X.gl X.m3 (by kernel_rfl) (by kernel_rfl) (by kernel_rfl) (by kernel_rfl)
  have g_len : GlobIs (callee C (fdA P 45) nm_add_codewords L 45) "len" (· = .builtin "len") := X.built (by decide +kernel) (by kernel_rfl) (by kernel_rfl) (by kernel_rfl) (by kernel_rfl) (by kernel_rfl) (by kernel_rfl)
  have g_range : GlobIs (callee C (fdA P 45) nm_add_codewords L 45) "range" (· = .type "range") := X.built (by decide +kernel) (by kernel_rfl) (by kernel_rfl) (by kernel_rfl) (by kernel_rfl) (by kernel_rfl) (by kernel_rfl)
  exact (s_cons (s_assign (n_L K a_matrix_size k_matrix_size c_matrix_size) (e_callB g_len (l_cons (e_varL K a_matrix k_matrix d_matrix) l_nil (fun _ => rfl)) o_len (fun _ => rfl) (fun _ => rfl) (fun _ => rfl)) rfl) (s_cons (s_assign (n_L K a_is_micro k_is_micro c_is_micro) (e_cmp (e_varL K a_version k_version d_version) e_int rfl) rfl) (s_cons (s_assign (n_L K a_inc k_inc c_inc) (e_ite (t_cmp (e_varL K a_version k_version d_version) (e_tup K (l_cons (e_gint K (GlobIs.int g_VERSION_M1)) (l_cons (e_gint K (GlobIs.int g_VERSION_M3)) l_nil (fun _ => rfl)) (fun _ => rfl))) rfl) e_int e_int) rfl) (s_cons (s_assign (n_L K a_idx k_idx c_idx) e_int rfl) (s_cons (s_assign (n_L K a_codeword_length k_codeword_length c_codeword_length) (e_callB g_len (l_cons (e_varL K a_codewords k_codewords d_codewords) l_nil (fun _ => rfl)) o_len (fun _ => rfl) (fun _ => rfl) (fun _ => rfl)) rfl) (s_cons (s_assign (n_L K a_range_two k_range_two c_range_two) (e_callT g_range (l_cons e_int l_nil (fun _ => rfl)) (o_range K) (fun _ => rfl) (fun _ => rfl) (fun _ => rfl)) rfl) (s_cons (s_for K (a_name (n_L K a_right k_right c_right)) (e_callT g_range (l_cons (e_bin K (e_varL K a_matrix_size k_matrix_size d_matrix_size) e_int) (l_cons e_int (l_cons (e_neg e_int) l_nil (fun _ => rfl)) (fun _ => rfl)) (fun _ => rfl)) (o_range K) (fun _ => rfl) (fun _ => rfl) (fun _ => rfl)) (s_cons (s_if (t_and (t_not (t_val (e_varL K a_is_micro k_is_micro d_is_micro) (fun _ _ => rfl))) (t_cmp (e_varL K a_right k_right d_right) e_int rfl)) (s_cons (s_aug K a_right k_right (n_L K a_right k_right c_right) e_int) s_nil) s_nil) (s_cons (s_for K (a_name (n_L K a_vertical k_vertical c_vertical)) (e_callT g_range (l_cons (e_varL K a_matrix_size k_matrix_size d_matrix_size) l_nil (fun _ => rfl)) (o_range K) (fun _ => rfl) (fun _ => rfl) (fun _ => rfl)) (s_cons (s_for K (a_name (n_L K a_z k_z c_z)) (e_varL K a_range_two k_range_two d_range_two) (s_cons (s_assign (n_L K a_j k_j c_j) (e_bin K (e_varL K a_right k_right d_right) (e_varL K a_z k_z d_z)) rfl) (s_cons (s_assign (n_L K a_upwards k_upwards c_upwards) (e_cmp (e_bin K (e_bin K (e_varL K a_right k_right d_right) (e_varL K a_inc k_inc d_inc)) e_int) e_int rfl) rfl) (s_cons (s_if (t_not (t_val (e_varL K a_is_micro k_is_micro d_is_micro) (fun _ _ => rfl))) (s_cons (s_aug K a_upwards k_upwards (n_L K a_upwards k_upwards c_upwards) (e_cmp (e_varL K a_j k_j d_j) e_int rfl)) s_nil) s_nil) (s_cons (s_assign (n_L K a_i k_i c_i) (e_ite (t_val (e_varL K a_upwards k_upwards d_upwards) (fun _ _ => rfl)) (e_bin K (e_bin K (e_varL K a_matrix_size k_matrix_size d_matrix_size) e_int) (e_varL K a_vertical k_vertical d_vertical)) (e_varL K a_vertical k_vertical d_vertical)) rfl) (s_cons (s_assign (n_L K a_row k_row c_row) (e_idx (e_varL K a_matrix k_matrix d_matrix) (e_varL K a_i k_i d_i) (fun _ _ _ => rfl)) rfl) (s_cons (s_if (t_and (t_cmp (e_idx (e_varL K a_row k_row d_row) (e_varL K a_j k_j d_j) (fun _ _ _ => rfl)) e_int rfl) (t_cmp (e_varL K a_idx k_idx d_idx) (e_varL K a_codeword_length k_codeword_length d_codeword_length) rfl)) (s_cons (s_store X.nf (e_idx (e_varL K a_codewords k_codewords d_codewords) (e_varL K a_idx k_idx d_idx) (fun _ _ _ => rfl)) (e_varL K a_row k_row d_row) (e_varL K a_j k_j d_j) rfl rfl rfl) (s_cons (s_aug K a_idx k_idx (n_L K a_idx k_idx c_idx) e_int) s_nil)) s_nil) s_nil)))))) (fun _ => rfl)) s_nil) (fun _ => rfl)) s_nil)) (fun _ => rfl)) (s_cons (s_if (t_cmp (e_varL K a_idx k_idx d_idx) (e_callB g_len (l_cons (e_varL K a_codewords k_codewords d_codewords) l_nil (fun _ => rfl)) o_len (fun _ => rfl) (fun _ => rfl) (fun _ => rfl)) rfl) s_fail s_nil) s_nil))))))))

noncomputable def F_add_codewords : Fn := fnF 3 13 [] f_add_codewords
theorem dok_add_codewords (X : Wd C.W C.fz C.nf P mg mb) : DefOk C (fdA P 45) 45 (bodyOf (fdA P 45)) nm_add_codewords 3 [] [] where
  obj := X.fn (by kernel_rfl)
  lim := X.gl.lim
  cd := X.cd (by kernel_rfl)
  body := by kernel_rfl
  clo := by kernel_rfl
  co := by kernel_rfl
  gen := by kernel_rfl
  kind := by kernel_rfl
  bind := fun ws s hw hk => by
    obtain ⟨v0, v1, v2, rfl⟩ : ∃ v0 v1 v2, ws = [v0, v1, v2] := by
      match ws, hw with
      | [v0, v1, v2], _ => exact ⟨v0, v1, v2, rfl⟩
    exact BindsTo.of_eq (by kernel_rfl)
  kinds := fun L x hx => by
    have hx : x ∈ (["matrix", "codewords", "version"] : List Str) := hx
    simp only [List.mem_cons, List.not_mem_nil, or_false] at hx
    rcases hx with rfl | rfl | rfl
    · exact .inl (by kernel_rfl)
    · exact .inl (by kernel_rfl)
    · exact .inl (by kernel_rfl)
  cells := fun L x c h => by
    have e : cellsFrom (L + 1) (fdA P 45).scope.names [] = [] := by kernel_rfl
    rw [e] at h; cases h
  nd := by decide +kernel
  dfls := fun α => .nil
theorem ok_add_codewords (X : Wd C.W C.fz C.nf P mg mb) (K : COk C) (hroom : C.A.depth + 5 < recursionLimit) : CO C (.ref 45) F_add_codewords :=
  ⟨call_def K (by omega) (dok_add_codewords X) fun L K' => (sim_add_codewords X K').go⟩

theorem tab_mm {L : Nat} (X : Wd C.W C.fz C.nf P mg mb) : TabOk (callee C (fdA P 53) nm_make_matrix L 53) 0 52 48 where
  fz := by obtain ⟨scr, h⟩ := X.fz; show C.fz[0]? = _; rw [h]; rfl
  w := X.tab
  code := by kernel_rfl
  obj := by
    have h : (MineH.heapK P).lookup 52 = some _ := rfl
    exact ⟨_, _, _, _, _, _, _, _, _, X.frag _ (mem_of_lookup' h), rfl, rfl, rfl, rfl, rfl, rfl, rfl⟩
  ne := by decide

noncomputable def f_make_matrix : SF :=
  (consS (assignF 4 (cmpX .Eq (varX 0) (varX 1))) (consS (assignF 5 (andX (varX 4) (cmpX .Lt (varX 0) (intX 21)))) (consS (assignF 6 (binX .Mult (lstX (consL (intX 2) nilL)) (varX 0))) (consS (assignF 7 (tupGenF 0 6 (callX (consL (varX 1) nilL) rangeF))) (consS (ifF (boolT (varX 2)) (consS (ifF (andT (boolT (varX 4)) (cmpT .Gt (varX 0) (intX 41))) (consS (forF (nameA 8) (callX (consL (intX 6) nilL) rangeF) (consS (assignF 6 (idxX (varX 7) (varX 8))) (consS (storeF 12 (intX 0) (varX 6) (negX (intX 11))) (consS (storeF 12 (intX 0) (varX 6) (negX (intX 10))) (consS (storeF 12 (intX 0) (varX 6) (negX (intX 9))) (consS (storeF 12 (intX 0) (idxX (varX 7) (negX (intX 11))) (varX 8)) (consS (storeF 12 (intX 0) (idxX (varX 7) (negX (intX 10))) (varX 8)) (consS (storeF 12 (intX 0) (idxX (varX 7) (negX (intX 9))) (varX 8)) nilS)))))))) nilS) nilS) (consS (assignF 9 (idxX (varX 7) (intX 8))) (consS (forF (nameA 8) (callX (consL (intX 9) nilL) rangeF) (consS (storeF 12 (intX 0) (idxX (varX 7) (varX 8)) (intX 8)) (consS (storeF 12 (intX 0) (varX 9) (varX 8)) (consS (ifF (notT (boolT (varX 5))) (consS (storeF 12 (intX 0) (idxX (varX 7) (negX (varX 8))) (intX 8)) (consS (storeF 12 (intX 0) (varX 9) (negX (varX 8))) nilS)) nilS) nilS)))) nilS))) nilS) (consS (ifF (boolT (varX 3)) (consS (exprF (callX (consL (varX 7) (consL (varX 5) nilL)) F_add_timing_pattern)) nilS) nilS) (consS (retF (varX 7)) nilS)))))))
theorem sim_make_matrix {L : Nat} (X : Wd C.W C.fz C.nf P mg mb) (K : COk (callee C (fdA P 53) nm_make_matrix L 53)) (hroom : C.A.depth + 20 < recursionLimit) : SB (callee C (fdA P 53) nm_make_matrix L 53) (bodyOf (fdA P 53)) f_make_matrix := by
  have X : Wd (callee C (fdA P 53) nm_make_matrix L 53).W (callee C (fdA P 53) nm_make_matrix L 53).fz (callee C (fdA P 53) nm_make_matrix L 53).nf P mg mb := X
  have a_width : At (callee C (fdA P 53) nm_make_matrix L 53).names "width" 0 := .here
  have k_width : (callee C (fdA P 53) nm_make_matrix L 53).env.kindOf "width" = some .local := by kernel_rfl
  have c_width : (callee C (fdA P 53) nm_make_matrix L 53).env.cells.lookup ("width" : Str) = none := by kernel_rfl
  have d_width : (("width" : Str) == ("__debug__" : Str)) = false := by kernel_rfl
  have a_height : At (callee C (fdA P 53) nm_make_matrix L 53).names "height" 1 := (.there .here)
  have k_height : (callee C (fdA P 53) nm_make_matrix L 53).env.kindOf "height" = some .local := by kernel_rfl
  have c_height : (callee C (fdA P 53) nm_make_matrix L 53).env.cells.lookup ("height" : Str) = none := by kernel_rfl
  have d_height : (("height" : Str) == ("__debug__" : Str)) = false := by kernel_rfl
  have a_reserve_regions : At (callee C (fdA P 53) nm_make_matrix L 53).names "reserve_regions" 2 := (.there (.there .here))
  have k_reserve_regions : (callee C (fdA P 53) nm_make_matrix L 53).env.kindOf "reserve_regions" = some .local := by kernel_rfl
  have c_reserve_regions : (callee C (fdA P 53) nm_make_matrix L 53).env.cells.lookup ("reserve_regions" : Str) = none := by kernel_rfl
  have d_reserve_regions : (("reserve_regions" : Str) == ("__debug__" : Str)) = false := by kernel_rfl
  have a_add_timing : At (callee C (fdA P 53) nm_make_matrix L 53).names "add_timing" 3 := (.there (.there (.there .here)))
  have k_add_timing : (callee C (fdA P 53) nm_make_matrix L 53).env.kindOf "add_timing" = some .local := by kernel_rfl
  have c_add_timing : (callee C (fdA P 53) nm_make_matrix L 53).env.cells.lookup ("add_timing" : Str) = none := by kernel_rfl
  have d_add_timing : (("add_timing" : Str) == ("__debug__" : Str)) = false := by kernel_rfl
  have a_is_square : At (callee C (fdA P 53) nm_make_matrix L 53).names "is_square" 4 := (.there (.there (.there (.there .here))))
  have k_is_square : (callee C (fdA P 53) nm_make_matrix L 53).env.kindOf "is_square" = some .local := by kernel_rfl
  have c_is_square : (callee C (fdA P 53) nm_make_matrix L 53).env.cells.lookup ("is_square" : Str) = none := by kernel_rfl
  have d_is_square : (("is_square" : Str) == ("__debug__" : Str)) = false := by kernel_rfl
  have a_is_micro : At (callee C (fdA P 53) nm_make_matrix L 53).names "is_micro" 5 := (.there (.there (.there (.there (.there .here)))))
  have k_is_micro : (callee C (fdA P 53) nm_make_matrix L 53).env.kindOf "is_micro" = some .local := by kernel_rfl
  have c_is_micro : (callee C (fdA P 53) nm_make_matrix L 53).env.cells.lookup ("is_micro" : Str) = none := by kernel_rfl
  have d_is_micro : (("is_micro" : Str) == ("__debug__" : Str)) = false := by kernel_rfl
  have a_row : At (callee C (fdA P 53) nm_make_matrix L 53).names "row" 6 := (.there (.there (.there (.there (.there (.there .here))))))
  have k_row : (callee C (fdA P 53) nm_make_matrix L 53).env.kindOf "row" = some .cell := by kernel_rfl
  have c_row : (callee C (fdA P 53) nm_make_matrix L 53).env.cells.lookup ("row" : Str) = some (L + 1) := by kernel_rfl
  have d_row : (("row" : Str) == ("__debug__" : Str)) = false := by kernel_rfl
  have a_matrix : At (callee C (fdA P 53) nm_make_matrix L 53).names "matrix" 7 := (.there (.there (.there (.there (.there (.there (.there .here)))))))
  have k_matrix : (callee C (fdA P 53) nm_make_matrix L 53).env.kindOf "matrix" = some .local := by kernel_rfl
  have c_matrix : (callee C (fdA P 53) nm_make_matrix L 53).env.cells.lookup ("matrix" : Str) = none := by kernel_rfl
  have d_matrix : (("matrix" : Str) == ("__debug__" : Str)) = false := by kernel_rfl
  have a_i : At (callee C (fdA P 53) nm_make_matrix L 53).names "i" 8 := (.there (.there (.there (.there (.there (.there (.there (.there .here))))))))
  have k_i : (callee C (fdA P 53) nm_make_matrix L 53).env.kindOf "i" = some .local := by kernel_rfl
  have c_i : (callee C (fdA P 53) nm_make_matrix L 53).env.cells.lookup ("i" : Str) = none := by kernel_rfl
  have d_i : (("i" : Str) == ("__debug__" : Str)) = false := by kernel_rfl
  have a_row_eight : At (callee C (fdA P 53) nm_make_matrix L 53).names "row_eight" 9 := (.there (.there (.there (.there (.there (.there (.there (.there (.there .here)))))))))
  have k_row_eight : (callee C (fdA P 53) nm_make_matrix L 53).env.kindOf "row_eight" = some .local := by kernel_rfl
  have c_row_eight : (callee C (fdA P 53) nm_make_matrix L 53).env.cells.lookup ("row_eight" : Str) = none := by kernel_rfl
  have d_row_eight : (("row_eight" : Str) == ("__debug__" : Str)) = false := by kernel_rfl
  have g_add_timing_pattern := glob (C := callee C (fdA P 53) nm_make_matrix L 53) X.gl X.d2 (by kernel_rfl) (by kernel_rfl) (by kernel_rfl) (by kernel_rfl)
  have o_add_timing_pattern := X.fn (k := 38) (by kernel_rfl)
  have Ok_add_timing_pattern := ok_add_timing_pattern (C := callee C (fdA P 53) nm_make_matrix L 53) X K (by have := hroom; simp only [callee, Around.deeper]; omega)
  have g_range : GlobIs (callee C (fdA P 53) nm_make_matrix L 53) "range" (· = .type "range") := X.built (by decide +kernel) (by kernel_rfl) (by kernel_rfl) (by kernel_rfl) (by kernel_rfl) (by kernel_rfl) (by kernel_rfl)
  have g_tuple : GlobIs (callee C (fdA P 53) nm_make_matrix L 53) "tuple" (· = .type "tuple") := X.built (by decide +kernel) (by kernel_rfl) (by kernel_rfl) (by kernel_rfl) (by kernel_rfl) (by kernel_rfl) (by kernel_rfl)
  have T := tab_mm (C := C) (L := L) X
  exact (s_cons (s_assign (n_L K a_is_square k_is_square c_is_square) (e_cmp (e_varL K a_width k_width d_width) (e_varL K a_height k_height d_height) rfl) rfl) (s_cons (s_assign (n_L K a_is_micro k_is_micro c_is_micro) (e_and (e_varL K a_is_square k_is_square d_is_square) (e_cmp (e_varL K a_width k_width d_width) e_int rfl)) rfl) (s_cons (s_assign (n_C K a_row k_row c_row) (e_bin K (e_lst K (l_cons e_int l_nil (fun _ => rfl))) (e_varL K a_width k_width d_width)) rfl) (s_cons (s_assign (n_L K a_matrix k_matrix c_matrix) (e_tupGen (cl := [(("row" : Str), L + 1)]) K X (by have := hroom; simp only [callee, Around.deeper]; omega) (by kernel_rfl) T { co := by kernel_rfl, clos := by kernel_rfl, nocell := by decide +kernel, h0 := by kernel_rfl, kind := by kernel_rfl, hx := by kernel_rfl, hy := by kernel_rfl, cy := by kernel_rfl, cy0 := c_row, ay := a_row } (e_callT g_range (l_cons (e_varL K a_height k_height d_height) l_nil (fun _ => rfl)) (o_range K) (fun _ => rfl) (fun _ => rfl) (fun _ => rfl)) g_tuple (by intro A2 L2 code; refine Wd.built (P := P) (mg := mg) (mb := mb) (x := ("bytearray" : Str)) ?_ (by decide +kernel) (by kernel_rfl) (by kernel_rfl) (by kernel_rfl) (by kernel_rfl) (by kernel_rfl) (by kernel_rfl); exact X) (by kernel_rfl) (by kernel_rfl) (fun _ => rfl) (fun _ => rfl) (fun _ => rfl) (fun _ => rfl) (fun _ => rfl)) rfl) (s_cons (s_if (t_val (e_varL K a_reserve_regions k_reserve_regions d_reserve_regions) (fun _ _ => rfl)) (s_cons (s_if (t_and (t_val (e_varL K a_is_square k_is_square d_is_square) (fun _ _ => rfl)) (t_cmp (e_varL K a_width k_width d_width) e_int rfl)) (s_cons (s_for K (a_name (n_L K a_i k_i c_i)) (e_callT g_range (l_cons e_int l_nil (fun _ => rfl)) (o_range K) (fun _ => rfl) (fun _ => rfl) (fun _ => rfl)) (s_cons (s_assign (n_C K a_row k_row c_row) (e_idx (e_varL K a_matrix k_matrix d_matrix) (e_varL K a_i k_i d_i) (fun _ _ _ => rfl)) rfl) (s_cons (s_store X.nf e_int (e_varC K a_row k_row c_row d_row) (e_neg e_int) rfl rfl rfl) (s_cons (s_store X.nf e_int (e_varC K a_row k_row c_row d_row) (e_neg e_int) rfl rfl rfl) (s_cons (s_store X.nf e_int (e_varC K a_row k_row c_row d_row) (e_neg e_int) rfl rfl rfl) (s_cons (s_store X.nf e_int (e_idx (e_varL K a_matrix k_matrix d_matrix) (e_neg e_int) (fun _ _ _ => rfl)) (e_varL K a_i k_i d_i) rfl rfl rfl) (s_cons (s_store X.nf e_int (e_idx (e_varL K a_matrix k_matrix d_matrix) (e_neg e_int) (fun _ _ _ => rfl)) (e_varL K a_i k_i d_i) rfl rfl rfl) (s_cons (s_store X.nf e_int (e_idx (e_varL K a_matrix k_matrix d_matrix) (e_neg e_int) (fun _ _ _ => rfl)) (e_varL K a_i k_i d_i) rfl rfl rfl) s_nil))))))) (fun _ => rfl)) s_nil) s_nil) (s_cons (s_assign (n_L K a_row_eight k_row_eight c_row_eight) (e_idx (e_varL K a_matrix k_matrix d_matrix) e_int (fun _ _ _ => rfl)) rfl) (s_cons (s_for K (a_name (n_L K a_i k_i c_i)) (e_callT g_range (l_cons e_int l_nil (fun _ => rfl)) (o_range K) (fun _ => rfl) (fun _ => rfl) (fun _ => rfl)) (s_cons (s_store X.nf e_int (e_idx (e_varL K a_matrix k_matrix d_matrix) (e_varL K a_i k_i d_i) (fun _ _ _ => rfl)) e_int rfl rfl rfl) (s_cons (s_store X.nf e_int (e_varL K a_row_eight k_row_eight d_row_eight) (e_varL K a_i k_i d_i) rfl rfl rfl) (s_cons (s_if (t_not (t_val (e_varL K a_is_micro k_is_micro d_is_micro) (fun _ _ => rfl))) (s_cons (s_store X.nf e_int (e_idx (e_varL K a_matrix k_matrix d_matrix) (e_neg (e_varL K a_i k_i d_i)) (fun _ _ _ => rfl)) e_int rfl rfl rfl) (s_cons (s_store X.nf e_int (e_varL K a_row_eight k_row_eight d_row_eight) (e_neg (e_varL K a_i k_i d_i)) rfl rfl rfl) s_nil)) s_nil) s_nil))) (fun _ => rfl)) s_nil))) s_nil) (s_cons (s_if (t_val (e_varL K a_add_timing k_add_timing d_add_timing) (fun _ _ => rfl)) (s_cons (s_expr (e_callF g_add_timing_pattern o_add_timing_pattern (l_cons (e_varL K a_matrix k_matrix d_matrix) (l_cons (e_varL K a_is_micro k_is_micro d_is_micro) l_nil (fun _ => rfl)) (fun _ => rfl)) Ok_add_timing_pattern (fun _ => rfl) (fun _ => rfl)) rfl rfl) s_nil) s_nil) (s_cons (s_ret (e_varL K a_matrix k_matrix d_matrix)) s_nil)))))))

noncomputable def F_make_matrix : Fn := fnF 2 6 [.bool true, .bool true] f_make_matrix
theorem dok_make_matrix (X : Wd C.W C.fz C.nf P mg mb) : DefOk C (fdA P 53) 53 (bodyOf (fdA P 53)) nm_make_matrix 2 [.bool true, .bool true] [.bool true, .bool true] where
  obj := X.fn (by kernel_rfl)
  lim := X.gl.lim
  cd := X.cd (by kernel_rfl)
  body := by kernel_rfl
  clo := by kernel_rfl
  co := by kernel_rfl
  gen := by kernel_rfl
  kind := by kernel_rfl
  bind := fun ws s hw hk => by
    obtain ⟨v0, v1, rfl⟩ : ∃ v0 v1, ws = [v0, v1] := by
      match ws, hw with
      | [v0, v1], _ => exact ⟨v0, v1, rfl⟩
    exact BindsTo.of_defaults (T := 46) (items := #[.bool true, .bool true]) (n := 0) (by kernel_rfl) (hk _ _ (X.frag _ (mem_of_lookup' (k := 46) (o := { cls := .type "tuple", data := .seq #[.bool true, .bool true] }) (by kernel_rfl)))) rfl rfl (by kernel_rfl)
  kinds := fun L x hx => by
    have hx : x ∈ (["width", "height", "reserve_regions", "add_timing"] : List Str) := hx
    simp only [List.mem_cons, List.not_mem_nil, or_false] at hx
    rcases hx with rfl | rfl | rfl | rfl
    · exact .inl (by kernel_rfl)
    · exact .inl (by kernel_rfl)
    · exact .inl (by kernel_rfl)
    · exact .inl (by kernel_rfl)
  cells := fun L x c h => by
    have e : cellsFrom (L + 1) (fdA P 53).scope.names [] = [(("row" : Str), L + 1)] := by kernel_rfl
    rw [e] at h
    simp only [List.lookup] at h
    split at h
    · rename_i e2
      obtain rfl : x = ("row" : Str) := by simpa using e2
      have e3 : (fdA P 53).scope.names.lookup ("row" : Str) = some .cell := by kernel_rfl
      rw [e3]; nofun
    · cases h
  nd := by decide +kernel
  dfls := fun α => .cons (.bool true) (.cons (.bool true) .nil)
theorem ok_make_matrix (X : Wd C.W C.fz C.nf P mg mb) (K : COk C) (hroom : C.A.depth + 20 < recursionLimit) : CO C (.ref 53) F_make_matrix :=
  ⟨call_def K (by omega) (dok_make_matrix X) fun L K' => (sim_make_matrix X K' hroom).go⟩

noncomputable def f_law_pre : SF :=
  (consS (assignF 1 (iteX (cmpT .Gt (callX (consL (varX 0) nilL) lenF) (intX 0)) (takeX (varX 0) (intX 30)) (lstX (consL (intX 0) nilL)))) (consS (assignTF (pairA (nameA 2) (nameA 3)) (idxX (callX nilL F_law_SIZES) (binX .Mod (idxX (varX 1) (intX 0)) (intX 5)))) (consS (assignF 4 (callX (consL (varX 3) nilL) F_law_blank)) (consS (assignF 5 (callX (consL (varX 4) (consL (varX 3) nilL)) F_law_spots)) (consS (assignF 6 (binX .Mod (idxX (varX 1) (negX (intX 1))) (intX 5))) (consS (assignF 7 (callX (consL (varX 5) nilL) lenF)) (consS (ifF (cmpT .Eq (varX 6) (intX 3)) (consS (augF 7 .Sub (binX .Mod (idxX (varX 1) (binX .FloorDiv (callX (consL (varX 1) nilL) lenF) (intX 2))) (binX .Add (varX 7) (intX 1)))) nilS) nilS) (consS (ifF (cmpT .Eq (varX 6) (intX 4)) (consS (augF 7 .Add (binX .Add (intX 1) (binX .Mod (idxX (varX 1) (binX .FloorDiv (callX (consL (varX 1) nilL) lenF) (intX 2))) (intX 8)))) nilS) nilS) (consS (assignF 8 (compF [1] (callX (consL (varX 7) nilL) rangeF) (binX .Mod (binX .Add (binX .FloorDiv (idxX (varX 1) (binX .Mod (varX 0) (callX (consL (varX 1) nilL) lenF))) (binX .Add (intX 1) (binX .FloorDiv (varX 0) (callX (consL (varX 1) nilL) lenF)))) (binX .FloorDiv (binX .Mult (varX 0) (varX 0)) (intX 5))) (intX 2)))) (consS (assignF 9 (callX (consL (varX 3) (consL (varX 3) nilL)) F_make_matrix)) (consS (exprF (callX (consL (varX 9) (consL (varX 3) (consL (varX 3) nilL))) F_add_finder_patterns)) nilS)))))))))))
theorem sim_law_pre {L : Nat} (X : Wd C.W C.fz C.nf P mg mb) (K : COk (callee C (fdA P 77) nm_law L 77)) (hroom : C.A.depth + 40 < recursionLimit) : SB (callee C (fdA P 77) nm_law L 77) (List.take 11 (bodyOf (fdA P 77))) f_law_pre := by
  have X : Wd (callee C (fdA P 77) nm_law L 77).W (callee C (fdA P 77) nm_law L 77).fz (callee C (fdA P 77) nm_law L 77).nf P mg mb := X
  have a_script : At (callee C (fdA P 77) nm_law L 77).names "script" 0 := .here
  have k_script : (callee C (fdA P 77) nm_law L 77).env.kindOf "script" = some .local := by kernel_rfl
  have c_script : (callee C (fdA P 77) nm_law L 77).env.cells.lookup ("script" : Str) = none := by kernel_rfl
  have d_script : (("script" : Str) == ("__debug__" : Str)) = false := by kernel_rfl
  have a_numbers : At (callee C (fdA P 77) nm_law L 77).names "numbers" 1 := (.there .here)
  have k_numbers : (callee C (fdA P 77) nm_law L 77).env.kindOf "numbers" = some .cell := by kernel_rfl
  have c_numbers : (callee C (fdA P 77) nm_law L 77).env.cells.lookup ("numbers" : Str) = some (L + 1) := by kernel_rfl
  have d_numbers : (("numbers" : Str) == ("__debug__" : Str)) = false := by kernel_rfl
  have a_version : At (callee C (fdA P 77) nm_law L 77).names "version" 2 := (.there (.there .here))
  have k_version : (callee C (fdA P 77) nm_law L 77).env.kindOf "version" = some .local := by kernel_rfl
  have c_version : (callee C (fdA P 77) nm_law L 77).env.cells.lookup ("version" : Str) = none := by kernel_rfl
  have d_version : (("version" : Str) == ("__debug__" : Str)) = false := by kernel_rfl
  have a_size : At (callee C (fdA P 77) nm_law L 77).names "size" 3 := (.there (.there (.there .here)))
  have k_size : (callee C (fdA P 77) nm_law L 77).env.kindOf "size" = some .local := by kernel_rfl
  have c_size : (callee C (fdA P 77) nm_law L 77).env.cells.lookup ("size" : Str) = none := by kernel_rfl
  have d_size : (("size" : Str) == ("__debug__" : Str)) = false := by kernel_rfl
  have a_due : At (callee C (fdA P 77) nm_law L 77).names "due" 4 := (.there (.there (.there (.there .here))))
  have k_due : (callee C (fdA P 77) nm_law L 77).env.kindOf "due" = some .local := by kernel_rfl
  have c_due : (callee C (fdA P 77) nm_law L 77).env.cells.lookup ("due" : Str) = none := by kernel_rfl
  have d_due : (("due" : Str) == ("__debug__" : Str)) = false := by kernel_rfl
  have a_spots : At (callee C (fdA P 77) nm_law L 77).names "spots" 5 := (.there (.there (.there (.there (.there .here)))))
  have k_spots : (callee C (fdA P 77) nm_law L 77).env.kindOf "spots" = some .local := by kernel_rfl
  have c_spots : (callee C (fdA P 77) nm_law L 77).env.cells.lookup ("spots" : Str) = none := by kernel_rfl
  have d_spots : (("spots" : Str) == ("__debug__" : Str)) = false := by kernel_rfl
  have a_kind : At (callee C (fdA P 77) nm_law L 77).names "kind" 6 := (.there (.there (.there (.there (.there (.there .here))))))
  have k_kind : (callee C (fdA P 77) nm_law L 77).env.kindOf "kind" = some .local := by kernel_rfl
  have c_kind : (callee C (fdA P 77) nm_law L 77).env.cells.lookup ("kind" : Str) = none := by kernel_rfl
  have d_kind : (("kind" : Str) == ("__debug__" : Str)) = false := by kernel_rfl
  have a_length : At (callee C (fdA P 77) nm_law L 77).names "length" 7 := (.there (.there (.there (.there (.there (.there (.there .here)))))))
  have k_length : (callee C (fdA P 77) nm_law L 77).env.kindOf "length" = some .local := by kernel_rfl
  have c_length : (callee C (fdA P 77) nm_law L 77).env.cells.lookup ("length" : Str) = none := by kernel_rfl
  have d_length : (("length" : Str) == ("__debug__" : Str)) = false := by kernel_rfl
  have a_stream : At (callee C (fdA P 77) nm_law L 77).names "stream" 8 := (.there (.there (.there (.there (.there (.there (.there (.there .here))))))))
  have k_stream : (callee C (fdA P 77) nm_law L 77).env.kindOf "stream" = some .local := by kernel_rfl
  have c_stream : (callee C (fdA P 77) nm_law L 77).env.cells.lookup ("stream" : Str) = none := by kernel_rfl
  have d_stream : (("stream" : Str) == ("__debug__" : Str)) = false := by kernel_rfl
  have a_matrix : At (callee C (fdA P 77) nm_law L 77).names "matrix" 9 := (.there (.there (.there (.there (.there (.there (.there (.there (.there .here)))))))))
  have k_matrix : (callee C (fdA P 77) nm_law L 77).env.kindOf "matrix" = some .local := by kernel_rfl
  have c_matrix : (callee C (fdA P 77) nm_law L 77).env.cells.lookup ("matrix" : Str) = none := by kernel_rfl
  have d_matrix : (("matrix" : Str) == ("__debug__" : Str)) = false := by kernel_rfl
  have g__law_SIZES := glob (C := callee C (fdA P 77) nm_law L 77) X.gl X.d5 (by kernel_rfl) (by kernel_rfl) (by kernel_rfl) (by kernel_rfl)
  have o__law_SIZES := X.fn (k := 60) (by kernel_rfl)
  have Ok__law_SIZES := ok_law_SIZES (C := callee C (fdA P 77) nm_law L 77) X K (by have := hroom; simp only [callee, Around.deeper]; omega)
  have g__law_blank := glob (C := callee C (fdA P 77) nm_law L 77) X.gl X.d6 (by kernel_rfl) (by kernel_rfl) (by kernel_rfl) (by kernel_rfl)
  have o__law_blank := X.fn (k := 65) (by kernel_rfl)
  have Ok__law_blank := ok_law_blank (C := callee C (fdA P 77) nm_law L 77) X K (by have := hroom; simp only [callee, Around.deeper]; omega)
  have g__law_spots := glob (C := callee C (fdA P 77) nm_law L 77) X.gl X.d7 (by kernel_rfl) (by kernel_rfl) (by kernel_rfl) (by kernel_rfl)
  have o__law_spots := X.fn (k := 72) (by kernel_rfl)
  have Ok__law_spots := ok_law_spots (C := callee C (fdA P 77) nm_law L 77) X K (by have := hroom; simp only [callee, Around.deeper]; omega)
  have g_add_finder_patterns := glob (C := callee C (fdA P 77) nm_law L 77) X.gl X.d1 (by kernel_rfl) (by kernel_rfl) (by kernel_rfl) (by kernel_rfl)
  have o_add_finder_patterns := X.fn (k := 31) (by kernel_rfl)
  have Ok_add_finder_patterns := ok_add_finder_patterns (C := callee C (fdA P 77) nm_law L 77) X K (by have := hroom; simp only [callee, Around.deeper]; omega)
  have g_len : GlobIs (callee C (fdA P 77) nm_law L 77) "len" (· = .builtin "len") := X.built (by decide +kernel) (by kernel_rfl) (by kernel_rfl) (by kernel_rfl) (by kernel_rfl) (by kernel_rfl) (by kernel_rfl)
  have g_make_matrix := glob (C := callee C (fdA P 77) nm_law L 77) X.gl X.d4 (by kernel_rfl) (by kernel_rfl) (by kernel_rfl) (by kernel_rfl)
  have o_make_matrix := X.fn (k := 53) (by kernel_rfl)
  have Ok_make_matrix := ok_make_matrix (C := callee C (fdA P 77) nm_law L 77) X K (by have := hroom; simp only [callee, Around.deeper]; omega)
  have g_range : GlobIs (callee C (fdA P 77) nm_law L 77) "range" (· = .type "range") := X.built (by decide +kernel) (by kernel_rfl) (by kernel_rfl) (by kernel_rfl) (by kernel_rfl) (by kernel_rfl) (by kernel_rfl)
  exact (s_cons (s_assign (n_C K a_numbers k_numbers c_numbers) (e_ite (t_cmp (e_callB g_len (l_cons (e_varL K a_script k_script d_script) l_nil (fun _ => rfl)) o_len (fun _ => rfl) (fun _ => rfl) (fun _ => rfl)) e_int rfl) (e_take K (e_varL K a_script k_script d_script) e_int) (e_lst K (l_cons e_int l_nil (fun _ => rfl)))) rfl) (s_cons (s_assignT (a_pair K (a_name (n_L K a_version k_version c_version)) (a_name (n_L K a_size k_size c_size)) rfl) (e_idx (e_callF0 g__law_SIZES o__law_SIZES Ok__law_SIZES (fun _ => rfl)) (e_bin K (e_idx (e_varC K a_numbers k_numbers c_numbers d_numbers) e_int (fun _ _ _ => rfl)) e_int) (fun _ _ _ => rfl)) rfl rfl rfl) (s_cons (s_assign (n_L K a_due k_due c_due) (e_callF g__law_blank o__law_blank (l_cons (e_varL K a_size k_size d_size) l_nil (fun _ => rfl)) Ok__law_blank (fun _ => rfl) (fun _ => rfl)) rfl) (s_cons (s_assign (n_L K a_spots k_spots c_spots) (e_callF g__law_spots o__law_spots (l_cons (e_varL K a_due k_due d_due) (l_cons (e_varL K a_size k_size d_size) l_nil (fun _ => rfl)) (fun _ => rfl)) Ok__law_spots (fun _ => rfl) (fun _ => rfl)) rfl) (s_cons (s_assign (n_L K a_kind k_kind c_kind) (e_bin K (e_idx (e_varC K a_numbers k_numbers c_numbers d_numbers) (e_neg e_int) (fun _ _ _ => rfl)) e_int) rfl) (s_cons (s_assign (n_L K a_length k_length c_length) (e_callB g_len (l_cons (e_varL K a_spots k_spots d_spots) l_nil (fun _ => rfl)) o_len (fun _ => rfl) (fun _ => rfl) (fun _ => rfl)) rfl) (s_cons (s_if (t_cmp (e_varL K a_kind k_kind d_kind) e_int rfl) (s_cons (s_aug K a_length k_length (n_L K a_length k_length c_length) (e_bin K (e_idx (e_varC K a_numbers k_numbers c_numbers d_numbers) (e_bin K (e_callB g_len (l_cons (e_varC K a_numbers k_numbers c_numbers d_numbers) l_nil (fun _ => rfl)) o_len (fun _ => rfl) (fun _ => rfl) (fun _ => rfl)) e_int) (fun _ _ _ => rfl)) (e_bin K (e_varL K a_length k_length d_length) e_int))) s_nil) s_nil) (s_cons (s_if (t_cmp (e_varL K a_kind k_kind d_kind) e_int rfl) (s_cons (s_aug K a_length k_length (n_L K a_length k_length c_length) (e_bin K e_int (e_bin K (e_idx (e_varC K a_numbers k_numbers c_numbers d_numbers) (e_bin K (e_callB g_len (l_cons (e_varC K a_numbers k_numbers c_numbers d_numbers) l_nil (fun _ => rfl)) o_len (fun _ => rfl) (fun _ => rfl) (fun _ => rfl)) e_int) (fun _ _ _ => rfl)) e_int))) s_nil) s_nil) (s_cons (s_comp K (n_L K a_stream k_stream c_stream) (compOk1 (by kernel_rfl) (by kernel_rfl) (by decide +kernel) (by decide +kernel) (by kernel_rfl) (by kernel_rfl) c_numbers a_numbers (fun L => by kernel_rfl)) (e_callT g_range (l_cons (e_varL K a_length k_length d_length) l_nil (fun _ => rfl)) (o_range K) (fun _ => rfl) (fun _ => rfl) (fun _ => rfl)) (fun L' K' => by exact (e_bin K' (e_bin K' (e_bin K' (e_idx (e_varC (c := L + 1) K' (.there .here) (by kernel_rfl) (by kernel_rfl) (by kernel_rfl)) (e_bin K' (e_varL K' .here (by kernel_rfl) (by kernel_rfl)) (e_callB (by refine Wd.built (P := P) (mg := mg) (mb := mb) ?_ (by decide +kernel) (by kernel_rfl) (by kernel_rfl) (by kernel_rfl) (by kernel_rfl) (by kernel_rfl) (by kernel_rfl); exact X) (l_cons (e_varC (c := L + 1) K' (.there .here) (by kernel_rfl) (by kernel_rfl) (by kernel_rfl)) l_nil (fun _ => rfl)) o_len (fun _ => rfl) (fun _ => rfl) (fun _ => rfl))) (fun _ _ _ => rfl)) (e_bin K' e_int (e_bin K' (e_varL K' .here (by kernel_rfl) (by kernel_rfl)) (e_callB (by refine Wd.built (P := P) (mg := mg) (mb := mb) ?_ (by decide +kernel) (by kernel_rfl) (by kernel_rfl) (by kernel_rfl) (by kernel_rfl) (by kernel_rfl) (by kernel_rfl); exact X) (l_cons (e_varC (c := L + 1) K' (.there .here) (by kernel_rfl) (by kernel_rfl) (by kernel_rfl)) l_nil (fun _ => rfl)) o_len (fun _ => rfl) (fun _ => rfl) (fun _ => rfl))))) (e_bin K' (e_bin K' (e_varL K' .here (by kernel_rfl) (by kernel_rfl)) (e_varL K' .here (by kernel_rfl) (by kernel_rfl))) e_int)) e_int)) (fun _ => rfl) rfl) (s_cons (s_assign (n_L K a_matrix k_matrix c_matrix) (e_callF g_make_matrix o_make_matrix (l_cons (e_varL K a_size k_size d_size) (l_cons (e_varL K a_size k_size d_size) l_nil (fun _ => rfl)) (fun _ => rfl)) Ok_make_matrix (fun _ => rfl) (fun _ => rfl)) rfl) (s_cons (s_expr (e_callF g_add_finder_patterns o_add_finder_patterns (l_cons (e_varL K a_matrix k_matrix d_matrix) (l_cons (e_varL K a_size k_size d_size) (l_cons (e_varL K a_size k_size d_size) l_nil (fun _ => rfl)) (fun _ => rfl)) (fun _ => rfl)) Ok_add_finder_patterns (fun _ => rfl) (fun _ => rfl)) rfl rfl) s_nil)))))))))))

noncomputable def f_law_post : SF :=
  (consS (ifF (cmpT .Eq (varX 6) (intX 4)) (consS (retF (boolX false)) nilS) nilS) (consS (zipF (pairA (pairA (nameA 10) (nameA 11)) (nameA 12)) (consL (varX 5) (consL (varX 8) nilL)) (consS (storeF 12 (varX 12) (idxX (varX 4) (varX 10)) (varX 11)) nilS)) (consS (retF (eqLLF (compF [] (varX 9) (callX (consL (varX 0) nilL) listBaF)) (varX 4))) nilS)))
theorem sim_law_post {L : Nat} (X : Wd C.W C.fz C.nf P mg mb) (K : COk (callee C (fdA P 77) nm_law L 77)) (hu0 : C.A.units + 100 < cLine) : SB (callee C (fdA P 77) nm_law L 77) (List.drop 12 (bodyOf (fdA P 77))) f_law_post := by
  have X : Wd (callee C (fdA P 77) nm_law L 77).W (callee C (fdA P 77) nm_law L 77).fz (callee C (fdA P 77) nm_law L 77).nf P mg mb := X
  have a_due : At (callee C (fdA P 77) nm_law L 77).names "due" 4 := (.there (.there (.there (.there .here))))
  have k_due : (callee C (fdA P 77) nm_law L 77).env.kindOf "due" = some .local := by kernel_rfl
  have c_due : (callee C (fdA P 77) nm_law L 77).env.cells.lookup ("due" : Str) = none := by kernel_rfl
  have d_due : (("due" : Str) == ("__debug__" : Str)) = false := by kernel_rfl
  have a_spots : At (callee C (fdA P 77) nm_law L 77).names "spots" 5 := (.there (.there (.there (.there (.there .here)))))
  have k_spots : (callee C (fdA P 77) nm_law L 77).env.kindOf "spots" = some .local := by kernel_rfl
  have c_spots : (callee C (fdA P 77) nm_law L 77).env.cells.lookup ("spots" : Str) = none := by kernel_rfl
  have d_spots : (("spots" : Str) == ("__debug__" : Str)) = false := by kernel_rfl
  have a_kind : At (callee C (fdA P 77) nm_law L 77).names "kind" 6 := (.there (.there (.there (.there (.there (.there .here))))))
  have k_kind : (callee C (fdA P 77) nm_law L 77).env.kindOf "kind" = some .local := by kernel_rfl
  have c_kind : (callee C (fdA P 77) nm_law L 77).env.cells.lookup ("kind" : Str) = none := by kernel_rfl
  have d_kind : (("kind" : Str) == ("__debug__" : Str)) = false := by kernel_rfl
  have a_stream : At (callee C (fdA P 77) nm_law L 77).names "stream" 8 := (.there (.there (.there (.there (.there (.there (.there (.there .here))))))))
  have k_stream : (callee C (fdA P 77) nm_law L 77).env.kindOf "stream" = some .local := by kernel_rfl
  have c_stream : (callee C (fdA P 77) nm_law L 77).env.cells.lookup ("stream" : Str) = none := by kernel_rfl
  have d_stream : (("stream" : Str) == ("__debug__" : Str)) = false := by kernel_rfl
  have a_matrix : At (callee C (fdA P 77) nm_law L 77).names "matrix" 9 := (.there (.there (.there (.there (.there (.there (.there (.there (.there .here)))))))))
  have k_matrix : (callee C (fdA P 77) nm_law L 77).env.kindOf "matrix" = some .local := by kernel_rfl
  have c_matrix : (callee C (fdA P 77) nm_law L 77).env.cells.lookup ("matrix" : Str) = none := by kernel_rfl
  have d_matrix : (("matrix" : Str) == ("__debug__" : Str)) = false := by kernel_rfl
  have a_i : At (callee C (fdA P 77) nm_law L 77).names "i" 10 := (.there (.there (.there (.there (.there (.there (.there (.there (.there (.there .here))))))))))
  have k_i : (callee C (fdA P 77) nm_law L 77).env.kindOf "i" = some .local := by kernel_rfl
  have c_i : (callee C (fdA P 77) nm_law L 77).env.cells.lookup ("i" : Str) = none := by kernel_rfl
  have d_i : (("i" : Str) == ("__debug__" : Str)) = false := by kernel_rfl
  have a_j : At (callee C (fdA P 77) nm_law L 77).names "j" 11 := (.there (.there (.there (.there (.there (.there (.there (.there (.there (.there (.there .here)))))))))))
  have k_j : (callee C (fdA P 77) nm_law L 77).env.kindOf "j" = some .local := by kernel_rfl
  have c_j : (callee C (fdA P 77) nm_law L 77).env.cells.lookup ("j" : Str) = none := by kernel_rfl
  have d_j : (("j" : Str) == ("__debug__" : Str)) = false := by kernel_rfl
  have a_bit : At (callee C (fdA P 77) nm_law L 77).names "bit" 12 := (.there (.there (.there (.there (.there (.there (.there (.there (.there (.there (.there (.there .here))))))))))))
  have k_bit : (callee C (fdA P 77) nm_law L 77).env.kindOf "bit" = some .local := by kernel_rfl
  have c_bit : (callee C (fdA P 77) nm_law L 77).env.cells.lookup ("bit" : Str) = none := by kernel_rfl
  have d_bit : (("bit" : Str) == ("__debug__" : Str)) = false := by kernel_rfl
  have g_zip : GlobIs (callee C (fdA P 77) nm_law L 77) "zip" (· = .type "zip") := X.built (by decide +kernel) (by kernel_rfl) (by kernel_rfl) (by kernel_rfl) (by kernel_rfl) (by kernel_rfl) (by kernel_rfl)
  have hu : (callee C (fdA P 77) nm_law L 77).A.units + 2 < cLine := by have := hu0; simp only [callee, Around.deeper]; omega
  exact (s_cons (s_if (t_cmp (e_varL K a_kind k_kind d_kind) e_int rfl) (s_cons (s_ret e_bool) s_nil) s_nil) (s_cons (s_forZip K (a_pair K (a_pair K (a_name (n_L K a_i k_i c_i)) (a_name (n_L K a_j k_j c_j)) rfl) (a_name (n_L K a_bit k_bit c_bit)) rfl) g_zip (l_cons (e_varL K a_spots k_spots d_spots) (l_cons (e_varL K a_stream k_stream d_stream) l_nil (fun _ => rfl)) (fun _ => rfl)) (s_cons (s_store X.nf (e_varL K a_bit k_bit d_bit) (e_idx (e_varL K a_due k_due d_due) (e_varL K a_i k_i d_i) (fun _ _ _ => rfl)) (e_varL K a_j k_j d_j) rfl rfl rfl) s_nil) (fun _ => rfl) (fun _ => rfl) (fun _ => rfl) (fun _ => rfl)) (s_cons (s_ret (e_eqLL K hu (e_comp K (compOk0 (by kernel_rfl) (by kernel_rfl) (by decide +kernel) (by decide +kernel) (by kernel_rfl)) (e_varL K a_matrix k_matrix d_matrix) (fun L' K' => by exact (e_callT (by refine Wd.built (P := P) (mg := mg) (mb := mb) ?_ (by decide +kernel) (by kernel_rfl) (by kernel_rfl) (by kernel_rfl) (by kernel_rfl) (by kernel_rfl) (by kernel_rfl); exact X) (l_cons (e_varL K' .here (by kernel_rfl) (by kernel_rfl)) l_nil (fun _ => rfl)) (o_list K') (fun _ => rfl) (fun _ => rfl) (fun _ => rfl))) (fun _ => rfl)) (e_varL K a_due k_due d_due) rfl)) s_nil)))

noncomputable def f_ac_pre : SF :=
  (consS (assignF 3 (callX (consL (varX 0) nilL) lenF)) (consS (assignF 4 (cmpX .Lt (varX 2) (intX 1))) (consS (assignF 5 (iteX (cmpT .NotIn (varX 2) (tupX (consL (intX (-3)) (consL (intX (-1)) nilL)))) (intX 0) (intX 2))) (consS (assignF 6 (intX 0)) (consS (assignF 7 (callX (consL (varX 1) nilL) lenF)) (consS (assignF 8 (callX (consL (intX 2) nilL) rangeF)) (consS (forF (nameA 9) (callX (consL (binX .Sub (varX 3) (intX 1)) (consL (intX 0) (consL (negX (intX 2)) nilL))) rangeF) (consS (ifF (andT (notT (boolT (varX 4))) (cmpT .LtE (varX 9) (intX 6))) (consS (augF 9 .Sub (intX 1)) nilS) nilS) (consS (forF (nameA 10) (callX (consL (varX 3) nilL) rangeF) (consS (forF (nameA 11) (varX 8) (consS (assignF 12 (binX .Sub (varX 9) (varX 11))) (consS (assignF 13 (cmpX .Eq (binX .BitAnd (binX .Add (varX 9) (varX 5)) (intX 2)) (intX 0))) (consS (ifF (notT (boolT (varX 4))) (consS (augF 13 .BitXor (cmpX .Lt (varX 12) (intX 6))) nilS) nilS) (consS (assignF 14 (iteX (boolT (varX 13)) (binX .Sub (binX .Sub (varX 3) (intX 1)) (varX 10)) (varX 10))) (consS (assignF 15 (idxX (varX 0) (varX 14))) (consS (ifF (andT (cmpT .Eq (idxX (varX 15) (varX 12)) (intX 2)) (cmpT .Lt (varX 6) (varX 7))) (consS (storeF 12 (idxX (varX 1) (varX 6)) (varX 15) (varX 12)) (consS (augF 6 .Add (intX 1)) nilS)) nilS) nilS))))))) nilS)) nilS))) nilS)))))))
theorem sim_ac_pre {L : Nat} (X : Wd C.W C.fz C.nf P mg mb) (K : COk (callee C (fdA P 45) nm_add_codewords L 45)) : SB (callee C (fdA P 45) nm_add_codewords L 45) (List.take 7 (bodyOf (fdA P 45))) f_ac_pre := by
  have X : Wd (callee C (fdA P 45) nm_add_codewords L 45).W (callee C (fdA P 45) nm_add_codewords L 45).fz (callee C (fdA P 45) nm_add_codewords L 45).nf P mg mb := X
  have a_matrix : At (callee C (fdA P 45) nm_add_codewords L 45).names "matrix" 0 := .here
  have k_matrix : (callee C (fdA P 45) nm_add_codewords L 45).env.kindOf "matrix" = some .local := by kernel_rfl
  have c_matrix : (callee C (fdA P 45) nm_add_codewords L 45).env.cells.lookup ("matrix" : Str) = none := by kernel_rfl
  have d_matrix : (("matrix" : Str) == ("__debug__" : Str)) = false := by kernel_rfl
  have a_codewords : At (callee C (fdA P 45) nm_add_codewords L 45).names "codewords" 1 := (.there .here)
  have k_codewords : (callee C (fdA P 45) nm_add_codewords L 45).env.kindOf "codewords" = some .local := by kernel_rfl
  have c_codewords : (callee C (fdA P 45) nm_add_codewords L 45).env.cells.lookup ("codewords" : Str) = none := by kernel_rfl
  have d_codewords : (("codewords" : Str) == ("__debug__" : Str)) = false := by kernel_rfl
  have a_version : At (callee C (fdA P 45) nm_add_codewords L 45).names "version" 2 := (.there (.there .here))
  have k_version : (callee C (fdA P 45) nm_add_codewords L 45).env.kindOf "version" = some .local := by kernel_rfl
  have c_version : (callee C (fdA P 45) nm_add_codewords L 45).env.cells.lookup ("version" : Str) = none := by kernel_rfl
  have d_version : (("version" : Str) == ("__debug__" : Str)) = false := by kernel_rfl
  have a_matrix_size : At (callee C (fdA P 45) nm_add_codewords L 45).names "matrix_size" 3 := (.there (.there (.there .here)))
  have k_matrix_size : (callee C (fdA P 45) nm_add_codewords L 45).env.kindOf "matrix_size" = some .local := by kernel_rfl
  have c_matrix_size : (callee C (fdA P 45) nm_add_codewords L 45).env.cells.lookup ("matrix_size" : Str) = none := by kernel_rfl
  have d_matrix_size : (("matrix_size" : Str) == ("__debug__" : Str)) = false := by kernel_rfl
  have a_is_micro : At (callee C (fdA P 45) nm_add_codewords L 45).names "is_micro" 4 := (.there (.there (.there (.there .here))))
  have k_is_micro : (callee C (fdA P 45) nm_add_codewords L 45).env.kindOf "is_micro" = some .local := by kernel_rfl
  have c_is_micro : (callee C (fdA P 45) nm_add_codewords L 45).env.cells.lookup ("is_micro" : Str) = none := by kernel_rfl
  have d_is_micro : (("is_micro" : Str) == ("__debug__" : Str)) = false := by kernel_rfl
  have a_inc : At (callee C (fdA P 45) nm_add_codewords L 45).names "inc" 5 := (.there (.there (.there (.there (.there .here)))))
  have k_inc : (callee C (fdA P 45) nm_add_codewords L 45).env.kindOf "inc" = some .local := by kernel_rfl
  have c_inc : (callee C (fdA P 45) nm_add_codewords L 45).env.cells.lookup ("inc" : Str) = none := by kernel_rfl
  have d_inc : (("inc" : Str) == ("__debug__" : Str)) = false := by kernel_rfl
  have a_idx : At (callee C (fdA P 45) nm_add_codewords L 45).names "idx" 6 := (.there (.there (.there (.there (.there (.there .here))))))
  have k_idx : (callee C (fdA P 45) nm_add_codewords L 45).env.kindOf "idx" = some .local := by kernel_rfl
  have c_idx : (callee C (fdA P 45) nm_add_codewords L 45).env.cells.lookup ("idx" : Str) = none := by kernel_rfl
  have d_idx : (("idx" : Str) == ("__debug__" : Str)) = false := by kernel_rfl
  have a_codeword_length : At (callee C (fdA P 45) nm_add_codewords L 45).names "codeword_length" 7 := (.there (.there (.there (.there (.there (.there (.there .here)))))))
  have k_codeword_length : (callee C (fdA P 45) nm_add_codewords L 45).env.kindOf "codeword_length" = some .local := by kernel_rfl
  have c_codeword_length : (callee C (fdA P 45) nm_add_codewords L 45).env.cells.lookup ("codeword_length" : Str) = none := by kernel_rfl
  have d_codeword_length : (("codeword_length" : Str) == ("__debug__" : Str)) = false := by kernel_rfl
  have a_range_two : At (callee C (fdA P 45) nm_add_codewords L 45).names "range_two" 8 := (.there (.there (.there (.there (.there (.there (.there (.there .here))))))))
  have k_range_two : (callee C (fdA P 45) nm_add_codewords L 45).env.kindOf "range_two" = some .local := by kernel_rfl
  have c_range_two : (callee C (fdA P 45) nm_add_codewords L 45).env.cells.lookup ("range_two" : Str) = none := by kernel_rfl
  have d_range_two : (("range_two" : Str) == ("__debug__" : Str)) = false := by kernel_rfl
  have a_right : At (callee C (fdA P 45) nm_add_codewords L 45).names "right" 9 := (.there (.there (.there (.there (.there (.there (.there (.there (.there .here)))))))))
  have k_right : (callee C (fdA P 45) nm_add_codewords L 45).env.kindOf "right" = some .local := by kernel_rfl
  have c_right : (callee C (fdA P 45) nm_add_codewords L 45).env.cells.lookup ("right" : Str) = none := by kernel_rfl
  have d_right : (("right" : Str) == ("__debug__" : Str)) = false := by kernel_rfl
  have a_vertical : At (callee C (fdA P 45) nm_add_codewords L 45).names "vertical" 10 := (.there (.there (.there (.there (.there (.there (.there (.there (.there (.there .here))))))))))
  have k_vertical : (callee C (fdA P 45) nm_add_codewords L 45).env.kindOf "vertical" = some .local := by kernel_rfl
  have c_vertical : (callee C (fdA P 45) nm_add_codewords L 45).env.cells.lookup ("vertical" : Str) = none := by kernel_rfl
  have d_vertical : (("vertical" : Str) == ("__debug__" : Str)) = false := by kernel_rfl
  have a_z : At (callee C (fdA P 45) nm_add_codewords L 45).names "z" 11 := (.there (.there (.there (.there (.there (.there (.there (.there (.there (.there (.there .here)))))))))))
  have k_z : (callee C (fdA P 45) nm_add_codewords L 45).env.kindOf "z" = some .local := by kernel_rfl
  have c_z : (callee C (fdA P 45) nm_add_codewords L 45).env.cells.lookup ("z" : Str) = none := by kernel_rfl
  have d_z : (("z" : Str) == ("__debug__" : Str)) = false := by kernel_rfl
  have a_j : At (callee C (fdA P 45) nm_add_codewords L 45).names "j" 12 := (.there (.there (.there (.there (.there (.there (.there (.there (.there (.there (.there (.there .here))))))))))))
  have k_j : (callee C (fdA P 45) nm_add_codewords L 45).env.kindOf "j" = some .local := by kernel_rfl
  have c_j : (callee C (fdA P 45) nm_add_codewords L 45).env.cells.lookup ("j" : Str) = none := by kernel_rfl
  have d_j : (("j" : Str) == ("__debug__" : Str)) = false := by kernel_rfl
  have a_upwards : At (callee C (fdA P 45) nm_add_codewords L 45).names "upwards" 13 := (.there (.there (.there (.there (.there (.there (.there (.there (.there (.there (.there (.there (.there .here)))))))))))))
  have k_upwards : (callee C (fdA P 45) nm_add_codewords L 45).env.kindOf "upwards" = some .local := by kernel_rfl
  have c_upwards : (callee C (fdA P 45) nm_add_codewords L 45).env.cells.lookup ("upwards" : Str) = none := by kernel_rfl
  have d_upwards : (("upwards" : Str) == ("__debug__" : Str)) = false := by kernel_rfl
  have a_i : At (callee C (fdA P 45) nm_add_codewords L 45).names "i" 14 := (.there (.there (.there (.there (.there (.there (.there (.there (.there (.there (.there (.there (.there (.there .here))))))))))))))
  have k_i : (callee C (fdA P 45) nm_add_codewords L 45).env.kindOf "i" = some .local := by kernel_rfl
  have c_i : (callee C (fdA P 45) nm_add_codewords L 45).env.cells.lookup ("i" : Str) = none := by kernel_rfl
  have d_i : (("i" : Str) == ("__debug__" : Str)) = false := by kernel_rfl
  have a_row : At (callee C (fdA P 45) nm_add_codewords L 45).names "row" 15 := (.there (.there (.there (.there (.there (.there (.there (.there (.there (.there (.there (.there (.there (.there (.there .here)))))))))))))))
  have k_row : (callee C (fdA P 45) nm_add_codewords L 45).env.kindOf "row" = some .local := by kernel_rfl
  have c_row : (callee C (fdA P 45) nm_add_codewords L 45).env.cells.lookup ("row" : Str) = none := by kernel_rfl
  have d_row : (("row" : Str) == ("__debug__" : Str)) = false := by kernel_rfl
  have g_VERSION_M1 := glob (C := callee C (fdA P 45) nm_add_codewords L 45) X.gl X.m1 (by kernel_rfl) (by kernel_rfl) (by kernel_rfl) (by kernel_rfl)
  have g_VERSION_M3 := glob (C := callee C (fdA P 45) nm_add_codewords L 45) X.gl X.m3 (by kernel_rfl) (by kernel_rfl) (by kernel_rfl) (by kernel_rfl)
  have g_len : GlobIs (callee C (fdA P 45) nm_add_codewords L 45) "len" (· = .builtin "len") := X.built (by decide +kernel) (by kernel_rfl) (by kernel_rfl) (by kernel_rfl) (by kernel_rfl) (by kernel_rfl) (by kernel_rfl)
  have g_range : GlobIs (callee C (fdA P 45) nm_add_codewords L 45) "range" (· = .type "range") := X.built (by decide +kernel) (by kernel_rfl) (by kernel_rfl) (by kernel_rfl) (by kernel_rfl) (by kernel_rfl) (by kernel_rfl)
  exact (s_cons (s_assign (n_L K a_matrix_size k_matrix_size c_matrix_size) (e_callB g_len (l_cons (e_varL K a_matrix k_matrix d_matrix) l_nil (fun _ => rfl)) o_len (fun _ => rfl) (fun _ => rfl) (fun _ => rfl)) rfl) (s_cons (s_assign (n_L K a_is_micro k_is_micro c_is_micro) (e_cmp (e_varL K a_version k_version d_version) e_int rfl) rfl) (s_cons (s_assign (n_L K a_inc k_inc c_inc) (e_ite (t_cmp (e_varL K a_version k_version d_version) (e_tup K (l_cons (e_gint K (GlobIs.int g_VERSION_M1)) (l_cons (e_gint K (GlobIs.int g_VERSION_M3)) l_nil (fun _ => rfl)) (fun _ => rfl))) rfl) e_int e_int) rfl) (s_cons (s_assign (n_L K a_idx k_idx c_idx) e_int rfl) (s_cons (s_assign (n_L K a_codeword_length k_codeword_length c_codeword_length) (e_callB g_len (l_cons (e_varL K a_codewords k_codewords d_codewords) l_nil (fun _ => rfl)) o_len (fun _ => rfl) (fun _ => rfl) (fun _ => rfl)) rfl) (s_cons (s_assign (n_L K a_range_two k_range_two c_range_two) (e_callT g_range (l_cons e_int l_nil (fun _ => rfl)) (o_range K) (fun _ => rfl) (fun _ => rfl) (fun _ => rfl)) rfl) (s_cons (s_for K (a_name (n_L K a_right k_right c_right)) (e_callT g_range (l_cons (e_bin K (e_varL K a_matrix_size k_matrix_size d_matrix_size) e_int) (l_cons e_int (l_cons (e_neg e_int) l_nil (fun _ => rfl)) (fun _ => rfl)) (fun _ => rfl)) (o_range K) (fun _ => rfl) (fun _ => rfl) (fun _ => rfl)) (s_cons (s_if (t_and (t_not (t_val (e_varL K a_is_micro k_is_micro d_is_micro) (fun _ _ => rfl))) (t_cmp (e_varL K a_right k_right d_right) e_int rfl)) (s_cons (s_aug K a_right k_right (n_L K a_right k_right c_right) e_int) s_nil) s_nil) (s_cons (s_for K (a_name (n_L K a_vertical k_vertical c_vertical)) (e_callT g_range (l_cons (e_varL K a_matrix_size k_matrix_size d_matrix_size) l_nil (fun _ => rfl)) (o_range K) (fun _ => rfl) (fun _ => rfl) (fun _ => rfl)) (s_cons (s_for K (a_name (n_L K a_z k_z c_z)) (e_varL K a_range_two k_range_two d_range_two) (s_cons (s_assign (n_L K a_j k_j c_j) (e_bin K (e_varL K a_right k_right d_right) (e_varL K a_z k_z d_z)) rfl) (s_cons (s_assign (n_L K a_upwards k_upwards c_upwards) (e_cmp (e_bin K (e_bin K (e_varL K a_right k_right d_right) (e_varL K a_inc k_inc d_inc)) e_int) e_int rfl) rfl) (s_cons (s_if (t_not (t_val (e_varL K a_is_micro k_is_micro d_is_micro) (fun _ _ => rfl))) (s_cons (s_aug K a_upwards k_upwards (n_L K a_upwards k_upwards c_upwards) (e_cmp (e_varL K a_j k_j d_j) e_int rfl)) s_nil) s_nil) (s_cons (s_assign (n_L K a_i k_i c_i) (e_ite (t_val (e_varL K a_upwards k_upwards d_upwards) (fun _ _ => rfl)) (e_bin K (e_bin K (e_varL K a_matrix_size k_matrix_size d_matrix_size) e_int) (e_varL K a_vertical k_vertical d_vertical)) (e_varL K a_vertical k_vertical d_vertical)) rfl) (s_cons (s_assign (n_L K a_row k_row c_row) (e_idx (e_varL K a_matrix k_matrix d_matrix) (e_varL K a_i k_i d_i) (fun _ _ _ => rfl)) rfl) (s_cons (s_if (t_and (t_cmp (e_idx (e_varL K a_row k_row d_row) (e_varL K a_j k_j d_j) (fun _ _ _ => rfl)) e_int rfl) (t_cmp (e_varL K a_idx k_idx d_idx) (e_varL K a_codeword_length k_codeword_length d_codeword_length) rfl)) (s_cons (s_store X.nf (e_idx (e_varL K a_codewords k_codewords d_codewords) (e_varL K a_idx k_idx d_idx) (fun _ _ _ => rfl)) (e_varL K a_row k_row d_row) (e_varL K a_j k_j d_j) rfl rfl rfl) (s_cons (s_aug K a_idx k_idx (n_L K a_idx k_idx c_idx) e_int) s_nil)) s_nil) s_nil)))))) (fun _ => rfl)) s_nil) (fun _ => rfl)) s_nil)) (fun _ => rfl)) s_nil)))))))

end Mine

namespace Mine
open _root_.PySem _root_.PySem.W PyProof.Rows _root_.PySem.Calls

section
variable {prog : Program} {w : World} {A : Around} {s : Shared} {R : Result → Shared → Prop}
theorem codeC_funcE {body env} (h : wpC (model prog w) (A.deeper env) (execs body env) (fun f s' => R (.ok (.ret (match f with | .ret v => v | _ => .none))) s')
      (fun e s' => wpAny (model prog w) (A.deeper env) (leaving env e) (fun _ s'' => R (.error e) s'') (fun _ _ => False) s') s) :
    codeC (model prog w) A (.func body env) R s := by
  refine codeC_of_tree ?_
  show wpC _ (A.deeper env) (do point; match ← (execs body env).onRaise (leaving env) with | .ret v => ret v | _ => ret .none) _ _ s
  refine wpC_bind (wpC_point (wpC_bind (wpC_onRaise (wpC_mono h (fun f s' h' => ?_) fun e s' h' => wpC_of (wpAny_mono h' (fun _ _ x => x) fun _ _ x => x.elim)))))
  cases f <;> exact wpC_pure h'
theorem codeC_call_cellsE {a : Addr} {o : Obj} {fd : FuncData} {body : List Stmt} {vals : List Value} {binds : List (Str × Value)}
    (hroom : A.depth < recursionLimit) (ho : s.heap.get? a = some o) (hdata : o.data = .func fd) (hlim : s.heap.NoLimit) (hcd : s.heap.CodeRec fd.code fd.qualname)
    (hbody : fd.body = .stmts body) (hbind : BindsTo s fd ⟨vals, []⟩ binds) (hclo : fd.closure = [])
    (hkind : ∀ x ∈ binds, fd.scope.names.lookup x.1 = some .local ∨ (fd.scope.names.lookup x.1 = some .cell ∧ ((cellsFrom (s.heap.objs.size + 1) fd.scope.names []).lookup x.1).isSome = true))
    (hco : fd.scope.isCoroutine = false) (hgen : fd.scope.isGenerator = false) (hk : fd.scope.kind = .function)
    (h : ∀ s₁, InCallC s (callEnvC fd s.heap.objs.size a).locals (bindL (callEnvC fd s.heap.objs.size a).kindOf binds fun _ => none) (callEnvC fd s.heap.objs.size a).cells
        (bindC (callEnvC fd s.heap.objs.size a).kindOf binds fun _ => none) s₁ →
      wpC (model prog w) (A.deeper (callEnvC fd s.heap.objs.size a)) (execs body (callEnvC fd s.heap.objs.size a)) (fun f s' => R (.ok (.ret (match f with | .ret v => v | _ => .none))) s')
        (fun e s' => wpAny (model prog w) (A.deeper (callEnvC fd s.heap.objs.size a)) (leaving (callEnvC fd s.heap.objs.size a) e) (fun _ s'' => R (.error e) s'') (fun _ _ => False) s') s₁) :
    codeC (model prog w) A (.call (.ref a) ⟨vals, []⟩) R s := by
  refine codeC_of_tree ?_
  show wpC _ A.in1 (callAny (.ref a) ⟨vals, []⟩) _ _ s
  simp only [callAny]
  refine wpC_bind (wpC_of (wpAny_load ho ?_))
  obtain ⟨c, oc, vs, tq, hc, hoc, hdc, hq⟩ := hcd
  simp only [hdata, callFunction, hco, hgen, hbody, hc, hclo]
  refine wpC_bind (m := field (.ref c) 1) (wpC_of (wpAny_field hoc hdc hq (wpC_bind (wpC_pure ?_))))
  refine wpC_bind (wpC_of (hbind _ _ _ _ ?_))
  refine wpC_bind (wpC_of ?_)
  refine wpAny_newFunctionEnv_cells hk hkind fun env he s' x => ?_
  have he' : env = callEnvC fd s.heap.objs.size a := by rw [he]; unfold callEnvC; rw [hc]
  subst he'
  refine wpC_bind (wpC_of (wpAny_enterFrame (hlim.keeps x.toInCall.keep) hroom (wpC_pure ⟨rfl, rfl, codeC_funcE (h s' x)⟩)))
end

variable {C : Cx} {B : Base} {α : List Addr} {loc : Loc} {H : Hp} {s : Shared}

/-- into a def's body, whatever comes of it -/
theorem enter_def (K : COk C) {fd : FuncData} {a : Addr} {body : List Stmt} {names : List Str} {np nl : Nat} {dfl : List V} {dws : List Value} {Rr : Result → Shared → Prop} (hroom : C.A.depth < recursionLimit)
    (D : DefOk C fd a body names np dfl dws) (R : Rel C B α loc H s) {vs ws} (hnp : vs.length = np) (hv : VRs α vs ws)
    (h : ∀ (L : Addr) (B' : Base) s₁, COk (callee C fd names L a) → Rel (callee C fd names L a) B' α ((vs ++ dfl).map some ++ List.replicate nl none) H s₁ →
      (∀ {α' loc' H' s'}, α <+: α' → Rel (callee C fd names L a) B' α' loc' H' s' → Rel C B α' loc H s' ∨ True) →
      (∀ b o, s.heap.get? b = some o → b ∉ α → B' b = some o) → C.W.objs.size ≤ L →
      wpC (model C.prog C.w) (callee C fd names L a).A (execs body (callee C fd names L a).env) (fun f s' => Rr (.ok (.ret (match f with | .ret v => v | _ => .none))) s')
        (fun e s' => wpAny (model C.prog C.w) (callee C fd names L a).A (leaving (callee C fd names L a).env e) (fun _ s'' => Rr (.error e) s'') (fun _ _ => False) s') s₁) :
    codeC (model C.prog C.w) C.A (.call (.ref a) ⟨ws, []⟩) Rr s := by
  obtain ⟨o, ho, hd⟩ := D.obj
  have hws : ws.length = np := by rw [hv.length]; exact hnp
  refine codeC_call_cellsE hroom (R.keepW _ _ ho) hd (D.lim.keeps R.keepW) ?_ D.body (D.bind ws s hws R.keepW) D.clo ?_ D.co D.gen D.kind fun s₁ X => ?_
  · obtain ⟨c, oc, vs', t, e1, e2, e3⟩ := D.cd
    exact ⟨c, oc, vs', t, e1, R.keepW _ _ e2, e3⟩
  · intro x hx
    have : x.1 ∈ (names.zip (ws ++ dws)).map (·.1) := List.mem_map_of_mem hx
    rw [zip_keys, List.length_append, hws] at this
    exact D.kinds _ _ this
  obtain ⟨h₁, tk, rfl, hk₁⟩ := X.done
  have haW : C.W.objs.size ≤ s.heap.objs.size := by
    obtain ⟨m, ⟨oL, _, _, hL, _⟩, _⟩ := R.ns
    exact Nat.le_trans K.aboveW (Nat.le_of_lt (Heap.lt_size hL))
  have K' : COk (callee C fd names s.heap.objs.size a) := {
    hk := D.kind, nd := D.nd, hh := K.hh, apart := X.apart, lne := fun n c hm => ⟨Nat.ne_of_lt (X.above n c hm), Nat.le_trans haW (Nat.le_of_lt (X.above n c hm))⟩
    aboveW := haW }
  have hvd := hv.append (D.dfls α)
  have hndk : ((names.zip (ws ++ dws)).map (·.1)).Nodup := by rw [zip_keys]; exact D.nd.sublist (List.take_sublist _ _)
  have hown : ∀ b, Own (callee C fd names s.heap.objs.size a) b → s.heap.objs.size ≤ b := by
    rintro b (h | ⟨x, h⟩)
    · exact h ▸ Nat.le_refl _
    · exact Nat.le_of_lt (X.above x b (mem_of_lookup h))
  have hαlt : ∀ b ∈ α, b < s.heap.objs.size := fun b hm => by
    obtain ⟨k, hk'⟩ := List.getElem?_of_mem hm
    have hkl : k < H.length := R.len ▸ (List.getElem?_eq_some_iff.mp hk').1
    obtain ⟨b', o', h1, h2, _⟩ := R.obj k _ (List.getElem?_eq_getElem hkl)
    rw [hk'] at h1; cases h1
    exact Heap.lt_size h2
  let B' : Base := fun b => open Classical in if b ∈ α then none else s.heap.get? b
  have hB' : ∀ b o, B' b = some o ↔ (s.heap.get? b = some o ∧ b ∉ α) := fun b o => by
    show (open Classical in if b ∈ α then none else s.heap.get? b) = some o ↔ _
    split
    · rename_i hm; exact ⟨fun e => (nomatch e), fun e => (e.2 hm).elim⟩
    · rename_i hm; exact ⟨fun e => ⟨e, hm⟩, fun e => e.1⟩
  have R1 : Rel (callee C fd names s.heap.objs.size a) B' α ((vs ++ dfl).map some ++ List.replicate nl none) H { s with heap := h₁, toks := tk } := {
    len := R.len, nd := R.nd
    obj := fun k mo e => let ⟨b, o, e1, e2, e3⟩ := R.obj k mo e; ⟨b, o, e1, hk₁ _ _ e2, e3⟩
    keep := fun b o e => by
      obtain ⟨e1, e2⟩ := (hB' b o).mp e
      exact ⟨hk₁ _ _ e1, e2, fun q => Nat.lt_irrefl _ (Nat.lt_of_lt_of_le (Heap.lt_size e1) (hown b q))⟩
    keepW := fun b o e => hk₁ _ _ (R.keepW b o e)
    lo := R.lo, nf := R.nf, fz := R.fz
    offL := fun hm => Nat.lt_irrefl _ (hαlt _ hm)
    offC := fun x c e hm => Nat.lt_irrefl _ (Nat.lt_of_lt_of_le (hαlt _ hm) (hown c (.inr ⟨x, e⟩)))
    ns := ⟨_, X.toInCall.ns, fun i x u hx hu hk => by
      obtain ⟨v', hm, rv⟩ := zip_get hvd hx hu
      exact ⟨v', bindL_at hndk hm hk, rv⟩⟩
    cl := fun x c e => ⟨_, X.cell x c e, fun i u hx hu => by
      obtain ⟨v', hm, rv⟩ := zip_get hvd hx hu
      exact ⟨v', bindC_at hndk hm (D.cells _ x c e), rv⟩⟩
    os := R.os, gens := R.gens }
  exact h _ B' _ K' R1 (fun _ _ => .inr trivial) (fun b o e hn => (hB' b o).mpr ⟨e, hn⟩) haW

/-- two runs of statements, one behind the other -/
theorem execs_append_wp {M : Model} {A : Around} {env : Env} {E : Value → Shared → Prop} {Q : Flow → Shared → Prop} {Γ : Ctx} (hΓ : Γ.In A) (hc : Clean Γ) {post : List Stmt} : ∀ {pre : List Stmt} {p : Pos} {s : Shared},
    Sem.wp M Γ (execs pre env) (fun f _ s' => match f with | .next => wpC M A (execs post env) Q E s' | f => Q f s') (fun e _ s' => E e s') p s → Sem.wp M Γ (execs (pre ++ post) env) (fun f _ s' => Q f s') (fun e _ s' => E e s') p s
  | [], p, s, h => h Γ p hΓ hc
  | st :: pre, p, s, h => by
    rw [execs_cons, Sem.wp_bind'] at h
    rw [List.cons_append, execs_cons, Sem.wp_bind']
    refine Sem.wp_mono M Γ _ (fun f p' s' h' => ?_) (fun _ _ _ x => x) p s h
    cases f with
    | next => exact execs_append_wp hΓ hc h'
    | brk => exact h'
    | cont => exact h'
    | ret v => exact h'
theorem C_execs_append {M : Model} {A : Around} {env : Env} {E : Value → Shared → Prop} {Q : Flow → Shared → Prop} {pre post : List Stmt} {s : Shared}
    (h : wpC M A (execs pre env) (fun f s' => match f with | .next => wpC M A (execs post env) Q E s' | f => Q f s') E s) : wpC M A (execs (pre ++ post) env) Q E s :=
  fun Γ p hΓ hc => execs_append_wp hΓ hc (h Γ p hΓ hc)

section
variable {prog : Program} {w : World} {A : Around} {E : Value → Shared → Prop} {env : Env}
theorem C_Try_except {body orelse : List Stmt} {h₀ : ExceptHandler} {hs : List ExceptHandler} {pos : Pos} {Q : Flow → Shared → Prop}
    (h : wpC (model prog w) A (execs body env) (fun f s₁ => match f with | .next => wpC (model prog w) A (execs orelse env) Q E s₁ | f => Q f s₁)
      (fun e s₁ => wpAny (model prog w) A (noteFrame e env) (fun _ s₂ => wpAny (model prog w) A (setFlight e none) (fun _ s₃ => wpAny (model prog w) A (handleBy e env (h₀ :: hs)) Q E s₃) E s₂) E s₁) s) :
    wpC (model prog w) A (exec (.Try body (h₀ :: hs) orelse [] pos) env) Q E s := by
  rw [arm_exec_Try]
  refine wpC_bind (wpC_standAt ?_)
  unfold tryStmt
  simp only [List.isEmpty_nil, if_true, List.isEmpty_cons, Bool.false_and, Bool.false_eq_true, if_false]
  refine wpC_bind (wpC_attempt (wpC_mono h (fun f s₁ h₁ => ?_) fun e s₁ h₁ => ?_))
  · cases f <;> first | exact h₁ | exact wpC_pure h₁
  · exact wpC_of (wpAny_bind (wpAny_mono h₁ (fun _ _ h₂ => wpAny_bind h₂) fun _ _ x => x))
end
end Mine

namespace Mine
open _root_.PySem _root_.PySem.W PyProof.Rows _root_.PySem.Calls

variable {C : Cx} {B : Base} {α : List Addr} {loc : Loc} {H : Hp} {s : Shared} {P : Params} {mg mb : Str → Option Value}

theorem lenLe {a b : Str} {n m : Nat} (h1 : a.length ≤ n) (h2 : b.length ≤ m) : (a ++ b).length ≤ n + m := by rw [strLen_append]; omega
theorem intLen {i : Int} (h : i.natAbs < 10 ^ 10) : (Str.ofString (toString i)).length ≤ 11 := by
  have e := int_text_length_le10 (k := 10) (by decide) h
  rw [_root_.PySem.ofString_length]; omega
theorem ac_raise {L : Nat} (X : Wd C.W C.fz C.nf P mg mb) (K : COk (callee C (fdA P 45) nm_add_codewords L 45)) (R : Rel (callee C (fdA P 45) nm_add_codewords L 45) B α loc H s)
    {i : Int} {k : Nat} {xs : List V} (h6 : loc[6]? = some (some (.int i))) (h1 : loc[1]? = some (some (.ref k))) (hk : H[k]? = some (.list xs)) (hl : xs.length < 1000000) (hi : i.natAbs < 10 ^ 10) (hne : i ≠ xs.length)
    {E : Value → Shared → Prop} (hE : ∀ α' s1 h' e msg, α <+: α' → Rel (callee C (fdA P 45) nm_add_codewords L 45) B α' loc H s1 → Heap.MadeExc s1.heap h' e "ValueError" [msg] → E (.ref e) { s1 with heap := h' }) :
    wpC (model C.prog C.w) (callee C (fdA P 45) nm_add_codewords L 45).A (execs (List.drop 7 (bodyOf (fdA P 45))) (callee C (fdA P 45) nm_add_codewords L 45).env) (fun _ _ => False) E s := by
  have X : Wd (callee C (fdA P 45) nm_add_codewords L 45).W (callee C (fdA P 45) nm_add_codewords L 45).fz (callee C (fdA P 45) nm_add_codewords L 45).nf P mg mb := X
  have a_idx : At (callee C (fdA P 45) nm_add_codewords L 45).names "idx" 6 := (.there (.there (.there (.there (.there (.there .here))))))
  have k_idx : (callee C (fdA P 45) nm_add_codewords L 45).env.kindOf "idx" = some .local := by kernel_rfl
  have d_idx : (("idx" : Str) == ("__debug__" : Str)) = false := by kernel_rfl
  have a_cw : At (callee C (fdA P 45) nm_add_codewords L 45).names "codewords" 1 := (.there .here)
  have k_cw : (callee C (fdA P 45) nm_add_codewords L 45).env.kindOf "codewords" = some .local := by kernel_rfl
  have d_cw : (("codewords" : Str) == ("__debug__" : Str)) = false := by kernel_rfl
  have g_len : GlobIs (callee C (fdA P 45) nm_add_codewords L 45) "len" (· = .builtin "len") := X.built (by decide +kernel) (by kernel_rfl) (by kernel_rfl) (by kernel_rfl) (by kernel_rfl) (by kernel_rfl) (by kernel_rfl)
  have g_ve : GlobIs (callee C (fdA P 45) nm_add_codewords L 45) "ValueError" (· = .type "ValueError") := X.built (by decide +kernel) (by kernel_rfl) (by kernel_rfl) (by kernel_rfl) (by kernel_rfl) (by kernel_rfl) (by kernel_rfl)
  have ft : cmpT .NotEq (varX 6) (callX (consL (varX 1) nilL) lenF) loc H = some (true, H) := by
    simp [cmpT, varX, h6, callX, consL, nilL, lenF, h1, hk, hl, cmpV, hne]
  refine C_execs_cons ?_
  refine C_If ?_
  refine (t_cmp (C := callee C (fdA P 45) nm_add_codewords L 45) (e_varL K a_idx k_idx d_idx) (e_callB g_len (l_cons (e_varL K a_cw k_cw d_cw) l_nil (fun _ => rfl)) o_len (fun _ => rfl) (fun _ => rfl) (fun _ => rfl)) rfl).go R ft fun α1 s1 p1 R1 => ?_
  rw [if_pos rfl]
  refine C_execs_cons (wpC_of (wpAny_Raise_call F.excCall_ValueError F.excRaise_ValueError K.hh rfl (g_ve s1 _ _ _ R1.keepW fun v hv => ⟨hv, ?_⟩)))
  obtain ⟨m, hm, hm2⟩ := R1.ns
  obtain ⟨vi, hvi, ri⟩ := hm2 6 _ _ a_idx.get h6 k_idx
  obtain ⟨t, rfl⟩ := ri.int_inv
  obtain ⟨vc, hvc, rc⟩ := hm2 1 _ _ a_cw.get h1 k_cw
  obtain ⟨a, us, n, rfl, hal, ho, rv⟩ := R1.listAt hk rc
  have nidx : ∀ {s' : Shared} {pos : Pos} {Q : Value → Shared → Prop} {E : Value → Shared → Prop}, s'.heap = s1.heap → Q (.int i t) s' → wpAny (model C.prog C.w) (callee C (fdA P 45) nm_add_codewords L 45).A (eval (.Name "idx" pos) (callee C (fdA P 45) nm_add_codewords L 45).env) Q E s' := fun {s' pos Q E} hs hq =>
    wpAny_Name (wpAny_loadName_local K.hk k_idx (hs ▸ hm) hvi hq) d_idx
  have ncw : ∀ {s' : Shared} {pos : Pos} {Q : Value → Shared → Prop} {E : Value → Shared → Prop}, s'.heap = s1.heap → Q (.ref a) s' → wpAny (model C.prog C.w) (callee C (fdA P 45) nm_add_codewords L 45).A (eval (.Name "codewords" pos) (callee C (fdA P 45) nm_add_codewords L 45).env) Q E s' := fun {s' pos Q E} hs hq =>
    wpAny_Name (wpAny_loadName_local K.hk k_cw (hs ▸ hm) hvc hq) d_cw
  refine evalArgs_plain (Calls.spliced_cons (wpAny_JoinedStr (pos := default) ?_))
  have l1 : (Str.empty ++ Str.ofString "Internal error: Adding codewords to matrix failed. Added ").length ≤ 200 := by decide +kernel
  have l2 := lenLe l1 (intLen hi)
  have l3 := lenLe l2 (show (Str.ofString " of ").length ≤ 10 by decide +kernel)
  have hn : ((xs.length : Int)).natAbs < 10 ^ 10 := by omega
  have l4 := lenLe l3 (intLen hn)
  have l5 := lenLe l4 (show (Str.ofString " codewords").length ≤ 20 by decide +kernel)
  have hlog : ∀ {j : Int}, j.natAbs < 10 ^ 10 → j.natAbs.log2 < 1920 := fun {j} h => by
    by_cases h0 : j.natAbs = 0
    · rw [h0]; decide
    · have : j.natAbs < 2 ^ 1920 := Nat.lt_of_lt_of_le h (by decide +kernel)
      exact (Nat.log2_lt h0).mpr this
  show wpAny _ _ (eval (.Constant (.str _) _ _) _) _ _ _
  refine Calls.Constant_str ⟨_, _, rfl, Nat.le_trans l1 (by decide), ?_⟩
  show wpAny _ _ (eval (.FormattedValue _ _ _ _) _) _ _ _
  refine wpAny_FormattedValue_plain (nidx rfl (wpAny_formatField_int (hlog hi) ⟨_, _, rfl, Nat.le_trans l2 (by decide), ?_⟩))
  show wpAny _ _ (eval (.Constant (.str _) _ _) _) _ _ _
  refine Calls.Constant_str ⟨_, _, rfl, Nat.le_trans l3 (by decide), ?_⟩
  show wpAny _ _ (eval (.FormattedValue _ _ _ _) _) _ _ _
  refine wpAny_FormattedValue_plain (wpAny_Call_ofName (g_len _ _ _ _ R1.keepW fun v hv => ?_))
  subst hv
  refine Calls.callWith_builtin rfl (Calls.evalArgs_plain (Calls.spliced_cons (ncw rfl (Calls.spliced_nil ?_))))
  refine call_len_list (items := us.toArray) ⟨_, ho, rfl, n, rfl⟩ (by rw [List.size_toArray, rv.length]; omega) ?_
  have hsz : us.toArray.size = xs.length := by rw [List.size_toArray, rv.length]
  rw [hsz]
  refine wpAny_formatField_int (hlog hn) ⟨_, _, rfl, Nat.le_trans l4 (by decide), ?_⟩
  show wpAny _ _ (eval (.Constant (.str _) _ _) _) _ _ _
  refine Calls.Constant_str ⟨_, _, rfl, Nat.le_trans l5 (by decide), ?_⟩
  refine ⟨Nat.le_trans l5 (by decide), Calls.spliced_nil ⟨rfl, (by show 1 ≤ sizeLine; decide), fun h' e hm => ?_⟩⟩
  exact hE α1 _ h' e _ p1 (R1.tok _) hm
end Mine

namespace Mine
open _root_.PySem _root_.PySem.W PyProof.Rows _root_.PySem.Calls

variable {C : Cx} {B : Base} {α : List Addr} {loc : Loc} {H : Hp} {s : Shared} {P : Params} {mg mb : Str → Option Value}

/-- what the law must leave -/
noncomputable def Fin (C : Cx) (s' : Shared) : Prop := s'.os = C.os ∧ AllBare s'.gens ∧ (∀ b o, C.W.get? b = some o → s'.heap.get? b = some o) ∧ ∃ ps, s'.heap.get? 48 = some { cls := .none, data := .fields ps }
theorem Rel.tabAt (X : Wd C.W C.fz C.nf P mg mb) (R : Rel C B α loc H s) (hH : H[0]? = some .tab) : ∃ ps, s.heap.get? 48 = some { cls := .none, data := .fields ps } := by
  obtain ⟨scr, hfz⟩ := X.fz
  have ha : α[0]? = some 48 := by
    obtain ⟨r, hr⟩ := R.fz
    rw [← hr, hfz]; rfl
  obtain ⟨o, ho, hr⟩ := R.at hH ha
  cases hr with | @tab ps _ => exact ⟨ps, ho⟩
theorem Rel.fin (X : Wd C.W C.fz C.nf P mg mb) (R : Rel C B α loc H s) (hH : H[0]? = some .tab) : Fin C s := ⟨R.os, R.gens, R.keepW, R.tabAt X hH⟩

/-- a heap that holds what must stay, and the table as it is -/
structure BaseAt (W base : Heap) (ps : Array Value) : Prop where
  tab : base.get? 48 = some { cls := .none, data := .fields ps }
  oth : ∀ b, b ≠ 48 → base.get? b = W.get? b
theorem BaseAt.stays {W base : Heap} {ps} (X : BaseAt W base ps) {h : Heap} (hW : ∀ b o, W.get? b = some o → h.get? b = some o) (ht : h.get? 48 = some { cls := .none, data := .fields ps }) : base.StaysIn h := fun b o e => by
  by_cases hb : b = 48
  · subst hb; rw [X.tab] at e; cases e; exact ht
  · rw [X.oth b hb] at e; exact hW b o e
theorem BaseAt.back {W base : Heap} {ps} (X : BaseAt W base ps) (hW48 : W.get? 48 = none) {h : Heap} (hs : base.StaysIn h) : (∀ b o, W.get? b = some o → h.get? b = some o) ∧ h.get? 48 = some { cls := .none, data := .fields ps } :=
  ⟨fun b o e => hs b o (by rw [X.oth b (fun q => by rw [q, hW48] at e; cases e)]; exact e), hs _ _ X.tab⟩

/-- the handler of the law: from an exception in flight to the answer -/
theorem law_handler {L : Nat} (X : Wd C.W C.fz C.nf P mg mb) {base : Heap} {e : Addr} {a0 : Value} {ps : Array Value} (hb : BaseAt C.W base ps) (hfr : (callee C (fdA P 77) nm_law L 77).A.frames = some [(callee C (fdA P 77) nm_law L 77).env])
    (hfl : Heap.FlyingW base [(callee C (fdA P 77) nm_law L 77).env] e (.type "ValueError") a0 s.heap) {m : Str → Option Value} (hm : s.heap.Ns L m) {t : Tok} (hk : m "kind" = some (.int 4 t)) (ho : s.os = C.os) (hg : AllBare s.gens)
    {Q : Flow → Shared → Prop} {E : Value → Shared → Prop} (hQ : ∀ s', Fin C s' → Q (.ret (.bool true)) s') {px p1 p2 p3 p4 p5 : Pos} {k4 : Nat} :
    wpAny (model C.prog C.w) (callee C (fdA P 77) nm_law L 77).A (noteFrame (.ref e) (callee C (fdA P 77) nm_law L 77).env) (fun _ s₂ => wpAny (model C.prog C.w) (callee C (fdA P 77) nm_law L 77).A (setFlight (.ref e) none) (fun _ s₃ =>
      wpAny (model C.prog C.w) (callee C (fdA P 77) nm_law L 77).A (handleBy (.ref e) (callee C (fdA P 77) nm_law L 77).env [.ExceptHandler (some (.Name "ValueError" px)) none [.Return (some (.Compare (.Name "kind" p1) [.Eq] [.Constant (.int 4) k4 p2] p3)) p5] p4]) Q E s₃) E s₂) E s := by
  refine wpAny_looks_onW hfr rfl hfl fun h1 held u1 => ?_
  refine wpAny_landsW held fun h2 fly u2 => ?_
  refine wpAny_handleBy_builtin (X := "ValueError") (T := "ValueError") (b := true) F.excRaise_ValueError.isExc (by rw [isSubtype_type]; kernel_rfl) (by rw [isSubtype_type]; kernel_rfl) ?_
  have gv : GlobIs { callee C (fdA P 77) nm_law L 77 with A := (callee C (fdA P 77) nm_law L 77).A.mark (some (.ref e)) } "ValueError" (· = .type "ValueError") := by
    refine Wd.built (P := P) (mg := mg) (mb := mb) ?_ (by decide +kernel) (by kernel_rfl) (by kernel_rfl) (by kernel_rfl) (by kernel_rfl) (by kernel_rfl) (by kernel_rfl)
    exact X
  have hst2 := hb.back X.tab fly.1
  refine gv _ _ _ _ hst2.1 fun v hv => ?_
  obtain ⟨ob, ho1, hc1⟩ := fly.there
  refine ⟨hv, ⟨ob, ho1, hc1⟩, ?_⟩
  rw [if_pos rfl]
  obtain ⟨f1, f2, f3, f4⟩ := fly
  refine wpAny_setFlight_noneW f1 f3 f4.at fun h3 k1 k2 k3 k5 => ?_
  have hm3 : h3.Ns L m := by
    have := (u2.ns (u1.ns hm))
    obtain ⟨o, es, ep, hoo, hd, r⟩ := this
    exact ⟨o, es, ep, k5 _ _ hoo (fun vs q => by rw [hd] at q; cases q), hd, r⟩
  have kk : (callee C (fdA P 77) nm_law L 77).env.kindOf "kind" = some .local := by kernel_rfl
  have dk : (("kind" : Str) == ("__debug__" : Str)) = false := by kernel_rfl
  have hkf : (callee C (fdA P 77) nm_law L 77).env.scope.kind = .function := by kernel_rfl
  refine wpAny_execs_cons ?_
  rw [exec_Return_some]
  refine wpAny_bind (wpAny_standAt (wpAny_bind (wpAny_Compare1 (wpAny_Name (wpAny_loadName_local hkf kk hm3 hk (wpAny_Constant_int (PyProof.Rows.eq_int (wpAny_pure ?_)))) dk))))
  have hst3 := hb.back X.tab k1
  exact hQ _ ⟨ho, hg, hst3.1, ps, hst3.2⟩
end Mine

namespace Mine
open _root_.PySem _root_.PySem.W PyProof.Rows _root_.PySem.Calls

variable {C : Cx} {B : Base} {α : List Addr} {loc : Loc} {H : Hp} {s : Shared} {P : Params} {mg mb : Str → Option Value}

noncomputable abbrev acArgs : LF := consL (varX 9) (consL (varX 8) (consL (varX 2) nilL))

theorem law_rest_ok {L : Nat} (X : Wd C.W C.fz C.nf P mg mb) (K : COk (callee C (fdA P 77) nm_law L 77)) (hroom : C.A.depth + 40 < recursionLimit) (hu0 : C.A.units + 100 < cLine) (R : Rel (callee C (fdA P 77) nm_law L 77) B α loc H s)
    {H2 loc' H3} (e1 : callX acArgs F_add_codewords loc H = some (.none, H2)) (e2 : f_law_post loc H2 = some (.ret (.bool true), loc', H3)) (ht : H3[0]? = some .tab) {Q : Flow → Shared → Prop} {E : Value → Shared → Prop}
    (hQ : ∀ s', Fin C s' → Q (.ret (.bool true)) s') : wpC (model C.prog C.w) (callee C (fdA P 77) nm_law L 77).A (execs (List.drop 11 (bodyOf (fdA P 77))) (callee C (fdA P 77) nm_law L 77).env) Q E s := by
  have X' : Wd (callee C (fdA P 77) nm_law L 77).W (callee C (fdA P 77) nm_law L 77).fz (callee C (fdA P 77) nm_law L 77).nf P mg mb := X
  have g := glob (C := callee C (fdA P 77) nm_law L 77) X'.gl X'.d3 (by kernel_rfl) (by kernel_rfl) (by kernel_rfl) (by kernel_rfl)
  have hf : consS (exprF (callX acArgs F_add_codewords)) nilS loc H = some (.next, loc, H2) := by
    simp [consS, exprF, e1, nilS]
  refine C_execs_cons (C_Try_except ?_)
  refine (s_cons (s_expr (e_callF g (X'.fn (k := 45) (by kernel_rfl)) (l_cons (e_varL K (show At (callee C (fdA P 77) nm_law L 77).names "matrix" 9 from (.there (.there (.there (.there (.there (.there (.there (.there (.there .here)))))))))) (by kernel_rfl) (by kernel_rfl))
    (l_cons (e_varL K (show At (callee C (fdA P 77) nm_law L 77).names "stream" 8 from (.there (.there (.there (.there (.there (.there (.there (.there .here))))))))) (by kernel_rfl) (by kernel_rfl))
    (l_cons (e_varL K (show At (callee C (fdA P 77) nm_law L 77).names "version" 2 from (.there (.there .here))) (by kernel_rfl) (by kernel_rfl)) l_nil (fun _ => rfl)) (fun _ => rfl)) (fun _ => rfl))
    (ok_add_codewords (C := callee C (fdA P 77) nm_law L 77) X' K (by simp only [callee, Around.deeper]; omega)) (fun _ => rfl) (fun _ => rfl)) rfl rfl) s_nil : SB (callee C (fdA P 77) nm_law L 77) _ (consS (exprF (callX acArgs F_add_codewords)) nilS)).go R hf fun α1 r1 s1 p1 R1 f1 => ?_
  cases f1
  refine C_execs_nil ?_
  exact (sim_law_post X K hu0).go R1 e2 fun α2 r2 s2 p2 R2 f2 => by
    cases f2 with | ret x => cases x; exact hQ _ (Rel.fin (C := callee C (fdA P 77) nm_law L 77) X' R2 ht)

set_option maxHeartbeats 2000000 in
theorem law_rest_raise {L : Nat} (X : Wd C.W C.fz C.nf P mg mb) (K : COk (callee C (fdA P 77) nm_law L 77)) (hroom : C.A.depth + 40 < recursionLimit) (hfr : C.A.frames = some []) (hbase : ∀ ps, ∃ base, BaseAt C.W base ps)
    (R : Rel (callee C (fdA P 77) nm_law L 77) B α loc H s) {vs : List V} {H1 H2 : Hp} {loc2 : Loc} {i : Int} {k : Nat} {xs : List V}
    (ea : acArgs loc H = some (vs, H1)) (hvs : vs.length = 3) (ep : f_ac_pre (vs.map some ++ List.replicate 13 none) H1 = some (.next, loc2, H2))
    (h6 : loc2[6]? = some (some (.int i))) (h1 : loc2[1]? = some (some (.ref k))) (hk : H2[k]? = some (.list xs)) (hl : xs.length < 1000000) (hi : i.natAbs < 10 ^ 10) (hne : i ≠ xs.length)
    (ht : H2[0]? = some .tab) (hkind : loc[6]? = some (some (.int 4))) {Q : Flow → Shared → Prop} {E : Value → Shared → Prop}
    (hQ : ∀ s', Fin C s' → Q (.ret (.bool true)) s') : wpC (model C.prog C.w) (callee C (fdA P 77) nm_law L 77).A (execs (List.drop 11 (bodyOf (fdA P 77))) (callee C (fdA P 77) nm_law L 77).env) Q E s := by
  have X' : Wd (callee C (fdA P 77) nm_law L 77).W (callee C (fdA P 77) nm_law L 77).fz (callee C (fdA P 77) nm_law L 77).nf P mg mb := X
  have g := glob (C := callee C (fdA P 77) nm_law L 77) X'.gl X'.d3 (by kernel_rfl) (by kernel_rfl) (by kernel_rfl) (by kernel_rfl)
  obtain ⟨o, ho, hd⟩ := X'.fn (k := 45) (by kernel_rfl)
  refine C_execs_cons (C_Try_except (C_execs_cons (C_Expr ?_ rfl rfl)))
  refine C_Call (wpC_of (g _ _ _ _ R.keepW fun v hv => ?_)) rfl
  subst hv
  refine C_callWith_function (o := o) (fd := fdA P 45) (C_evalArgs ?_)
  refine ((l_cons (e_varL K (show At (callee C (fdA P 77) nm_law L 77).names "matrix" 9 from (.there (.there (.there (.there (.there (.there (.there (.there (.there .here)))))))))) (by kernel_rfl) (by kernel_rfl))
    (l_cons (e_varL K (show At (callee C (fdA P 77) nm_law L 77).names "stream" 8 from (.there (.there (.there (.there (.there (.there (.there (.there .here))))))))) (by kernel_rfl) (by kernel_rfl))
    (l_cons (e_varL K (show At (callee C (fdA P 77) nm_law L 77).names "version" 2 from (.there (.there .here))) (by kernel_rfl) (by kernel_rfl)) l_nil (fun _ => rfl)) (fun _ => rfl)) (fun _ => rfl)) : SL (callee C (fdA P 77) nm_law L 77) _ acArgs).go R ea fun α1 ws s1 p1 R1 ra => ⟨⟨R1.keepW _ _ ho, hd⟩, wpC_call ?_⟩
  refine enter_def (nl := 13) (body := bodyOf (fdA P 45)) K (by simp only [callee, Around.deeper]; omega) (dok_add_codewords X') R1 hvs ra fun L' B' s2 K' R2 _ hB' hL' => ?_
  rw [show bodyOf (fdA P 45) = List.take 7 (bodyOf (fdA P 45)) ++ List.drop 7 (bodyOf (fdA P 45)) from (List.take_append_drop 7 _).symm]
  refine C_execs_append ((sim_ac_pre (C := callee C (fdA P 77) nm_law L 77) X' K').go R2 (by simpa using ep) fun α3 r3 s3 p3 R3 f3 => ?_)
  cases f3
  dsimp only
  refine wpC_mono (ac_raise (C := callee C (fdA P 77) nm_law L 77) X' K' R3 h6 h1 hk hl hi hne (E := fun e s' => ∃ α' s1 h' a msg, e = .ref a ∧ s' = { s1 with heap := h' } ∧ Rel (callee (callee C (fdA P 77) nm_law L 77) (fdA P 45) nm_add_codewords L' 45) B' α' loc2 H2 s1 ∧ Heap.MadeExc s1.heap h' a "ValueError" [msg])
    fun α' s1 h' e msg p R hm => ⟨α', s1, h', e, msg, rfl, rfl, R, hm⟩) (fun _ _ x => x.elim) fun e s' hx => ?_
  obtain ⟨α4, s4, h4, a4, msg, rfl, rfl, R4, hm4⟩ := hx
  obtain ⟨ps, htab⟩ := Rel.tabAt (C := callee (callee C (fdA P 77) nm_law L 77) (fdA P 45) nm_add_codewords L' 45) X' R4 ht
  obtain ⟨base, hb⟩ := hbase ps
  have hkb := hb.stays R4.keepW htab
  have hW48 : 48 < C.W.objs.size := by
    obtain ⟨o53, h53, _⟩ := X.fn (k := 53) (by kernel_rfl)
    exact Nat.lt_trans (by decide) (Heap.lt_size h53)
  have hnone : ∀ b, C.W.objs.size ≤ b → base.get? b = none := fun b hle => by
    rw [hb.oth b (Nat.ne_of_gt (Nat.lt_of_lt_of_le hW48 hle))]
    cases e : C.W.get? b with
    | none => rfl
    | some o => exact absurd (Heap.lt_size e) (Nat.not_lt.mpr hle)
  obtain ⟨m1, hn1, hm1⟩ := R1.ns
  obtain ⟨t, hkv⟩ : ∃ t, m1 "kind" = some (.int 4 t) := by
    obtain ⟨v', q1, q2⟩ := hm1 6 "kind" _ rfl hkind (by kernel_rfl)
    obtain ⟨t, rfl⟩ := q2.int_inv
    exact ⟨t, q1⟩
  have hn4 : s4.heap.Ns L m1 := by
    obtain ⟨oL, es, epx, hoL, r⟩ := hn1
    exact ⟨oL, es, epx, (R4.keep _ _ (hB' _ _ hoL R1.offL)).1, r⟩
  obtain ⟨m2, hn2, _⟩ := R4.ns
  have hff : s4.heap.FunFrames base [(callee (callee C (fdA P 77) nm_law L 77) (fdA P 45) nm_add_codewords L' 45).env, (callee C (fdA P 77) nm_law L 77).env] :=
    Heap.FunFrames.cons (by rw [K'.hk]; nofun) rfl hn2 (hnone _ hL') (Heap.FunFrames.cons (by rw [K.hk]; nofun) rfl hn4 (hnone _ K.aboveW) trivial)
  have hfr1 : (callee C (fdA P 77) nm_law L 77).A.frames = some [(callee C (fdA P 77) nm_law L 77).env] := Around.frames_deeper hfr
  have hfr2 : (callee (callee C (fdA P 77) nm_law L 77) (fdA P 45) nm_add_codewords L' 45).A.frames = some [(callee (callee C (fdA P 77) nm_law L 77) (fdA P 45) nm_add_codewords L' 45).env, (callee C (fdA P 77) nm_law L 77).env] := Around.frames_deeper hfr1
  refine wpAny_leaves_madeW (h := s4.heap) (base := base) (cls := .type "ValueError") (args := [msg]) hfr2 rfl hkb hff ⟨hm4.keeps, hm4.new, hm4.there⟩ fun h' t5 fly _ _ up => ?_
  refine law_handler (s := { s4 with heap := h' }) X hb hfr1 fly (up.ns (hn4.keeps hm4.keeps)) hkv R4.os R4.gens ?_
  exact fun s' hf => hQ s' hf
end Mine

namespace Mine
open _root_.PySem _root_.PySem.W PyProof.Rows _root_.PySem.Calls

variable {C : Cx} {P : Params} {mg mb : Str → Option Value}

theorem dok_law (X : Wd C.W C.fz C.nf P mg mb) : DefOk C (fdA P 77) 77 (bodyOf (fdA P 77)) nm_law 1 [] [] where
  obj := X.fn (by kernel_rfl)
  lim := X.gl.lim
  cd := X.cd (by kernel_rfl)
  body := by kernel_rfl
  clo := by kernel_rfl
  co := by kernel_rfl
  gen := by kernel_rfl
  kind := by kernel_rfl
  bind := fun ws s hw hk => by
    obtain ⟨v0, rfl⟩ : ∃ v0, ws = [v0] := by
      match ws, hw with
      | [v0], _ => exact ⟨v0, rfl⟩
    exact BindsTo.of_eq (by kernel_rfl)
  kinds := fun L x hx => by
    have hx : x ∈ (["script"] : List Str) := hx
    simp only [List.mem_cons, List.not_mem_nil, or_false] at hx
    subst hx
    exact .inl (by kernel_rfl)
  cells := fun L x c h => by
    have e : cellsFrom (L + 1) (fdA P 77).scope.names [] = [(("numbers" : Str), L + 1)] := by kernel_rfl
    rw [e] at h
    simp only [List.lookup] at h
    split at h
    · rename_i e2
      obtain rfl : x = ("numbers" : Str) := by simpa using e2
      have e3 : (fdA P 77).scope.names.lookup ("numbers" : Str) = some .cell := by kernel_rfl
      rw [e3]; nofun
    · cases h
  nd := by decide +kernel
  dfls := fun α => .nil

/-- into the law's frame, from outside -/
theorem enter_top {fd : FuncData} {a : Addr} {body : List Stmt} {names : List Str} {np nl : Nat} {dws : List Value} {dfl : List V} {Rr : Result → Shared → Prop} {s : Shared} {H : Hp}
    (hh : C.A.handled = none) (hroom : C.A.depth < recursionLimit) (D : DefOk C fd a body names np dfl dws)
    (hW : ∀ b o, C.W.get? b = some o → s.heap.get? b = some o) (hsz : C.W.objs.size = s.heap.objs.size)
    (len : C.fz.length = H.length) (nd : C.fz.Nodup) (obj : ∀ (k : Nat) mo, H[k]? = some mo → ∃ a o, C.fz[k]? = some a ∧ s.heap.get? a = some o ∧ OR C.fz mo o) (nf : C.nf = C.fz.length)
    (hos : s.os = C.os) (hg : AllBare s.gens) {vs ws} (hnp : vs.length = np) (hv : VRs C.fz vs ws)
    (h : ∀ (L : Addr) s₁, COk (callee C fd names L a) → Rel (callee C fd names L a) (fun _ => none) C.fz ((vs ++ dfl).map some ++ List.replicate nl none) H s₁ →
      wpC (model C.prog C.w) (callee C fd names L a).A (execs body (callee C fd names L a).env) (fun f s' => Rr (.ok (.ret (match f with | .ret v => v | _ => .none))) s') (fun _ _ => False) s₁) :
    codeC (model C.prog C.w) C.A (.call (.ref a) ⟨ws, []⟩) Rr s := by
  obtain ⟨o, ho, hd⟩ := D.obj
  have hws : ws.length = np := by rw [hv.length]; exact hnp
  refine codeC_call_cellsE hroom (hW _ _ ho) hd (D.lim.keeps hW) ?_ D.body (D.bind ws s hws hW) D.clo ?_ D.co D.gen D.kind fun s₁ X => ?_
  · obtain ⟨c, oc, vs', t, e1, e2, e3⟩ := D.cd
    exact ⟨c, oc, vs', t, e1, hW _ _ e2, e3⟩
  · intro x hx
    have : x.1 ∈ (names.zip (ws ++ dws)).map (·.1) := List.mem_map_of_mem hx
    rw [zip_keys, List.length_append, hws] at this
    exact D.kinds _ _ this
  obtain ⟨h₁, tk, rfl, hk₁⟩ := X.done
  have haW : C.W.objs.size ≤ s.heap.objs.size := Nat.le_of_eq hsz
  have K' : COk (callee C fd names s.heap.objs.size a) := {
    hk := D.kind, nd := D.nd, hh := hh, apart := X.apart, lne := fun n c hm => ⟨Nat.ne_of_lt (X.above n c hm), Nat.le_trans haW (Nat.le_of_lt (X.above n c hm))⟩
    aboveW := haW }
  have hvd := hv.append (D.dfls C.fz)
  have hndk : ((names.zip (ws ++ dws)).map (·.1)).Nodup := by rw [zip_keys]; exact D.nd.sublist (List.take_sublist _ _)
  have hown : ∀ b, Own (callee C fd names s.heap.objs.size a) b → s.heap.objs.size ≤ b := by
    rintro b (h | ⟨x, h⟩)
    · exact h ▸ Nat.le_refl _
    · exact Nat.le_of_lt (X.above x b (mem_of_lookup h))
  have hαlt : ∀ b ∈ C.fz, b < s.heap.objs.size := fun b hm => by
    obtain ⟨k, hk'⟩ := List.getElem?_of_mem hm
    have hkl : k < H.length := len ▸ (List.getElem?_eq_some_iff.mp hk').1
    obtain ⟨b', o', h1, h2, _⟩ := obj k _ (List.getElem?_eq_getElem hkl)
    rw [hk'] at h1; cases h1
    exact Heap.lt_size h2
  refine wpC_mono (h _ _ K' {
    len := len, nd := nd
    obj := fun k mo e => let ⟨b, o, e1, e2, e3⟩ := obj k mo e; ⟨b, o, e1, hk₁ _ _ e2, e3⟩
    keep := fun b o e => nomatch e
    keepW := fun b o e => hk₁ _ _ (hW b o e)
    lo := fun b hb => by
      have hb : b ∈ C.fz.drop C.nf := hb
      rw [nf, List.drop_length] at hb
      exact (List.not_mem_nil hb).elim
    nf := by show C.nf ≤ _; rw [nf]; exact Nat.le_refl _
    fz := pre_refl _
    offL := fun hm => Nat.lt_irrefl _ (hαlt _ hm)
    offC := fun x c e hm => Nat.lt_irrefl _ (Nat.lt_of_lt_of_le (hαlt _ hm) (hown c (.inr ⟨x, e⟩)))
    ns := ⟨_, X.toInCall.ns, fun i x u hx hu hk => by
      obtain ⟨v', hm, rv⟩ := zip_get hvd hx hu
      exact ⟨v', bindL_at hndk hm hk, rv⟩⟩
    cl := fun x c e => ⟨_, X.cell x c e, fun i u hx hu => by
      obtain ⟨v', hm, rv⟩ := zip_get hvd hx hu
      exact ⟨v', bindC_at hndk hm (D.cells _ x c e), rv⟩⟩
    os := hos, gens := hg }) (fun _ _ x => x) fun _ _ x => x.elim

/-! ### the heap without the table -/
noncomputable def hole (h : Heap) : Heap := ⟨h.objs.setIfInBounds 48 { cls := .none, data := .freed }, h.life⟩
noncomputable def patch (h : Heap) (ps : Array Value) : Heap := ⟨h.objs.setIfInBounds 48 { cls := .none, data := .fields ps }, h.life⟩
theorem hole_size (h : Heap) : (hole h).objs.size = h.objs.size := by simp [hole]
theorem hole_self (h : Heap) : (hole h).get? 48 = none := by
  unfold Heap.get? hole
  by_cases e : 48 < h.objs.size
  · rw [Array.getElem?_setIfInBounds_self_of_lt e]
  · rw [Array.getElem?_eq_none (by simpa using Nat.le_of_not_lt e)]
theorem hole_ne (h : Heap) {b : Addr} (hb : b ≠ 48) : (hole h).get? b = h.get? b := by
  unfold Heap.get? hole
  rw [Array.getElem?_setIfInBounds_ne (Ne.symm hb)]
theorem hole_get {h : Heap} {b : Addr} {o : Obj} (e : (hole h).get? b = some o) : h.get? b = some o ∧ b ≠ 48 := by
  by_cases hb : b = 48
  · subst hb; rw [hole_self] at e; cases e
  · exact ⟨(hole_ne h hb) ▸ e, hb⟩
theorem patch_self (h : Heap) (ps) (hl : 48 < h.objs.size) : (patch h ps).get? 48 = some { cls := .none, data := .fields ps } := by
  unfold Heap.get? patch
  rw [Array.getElem?_setIfInBounds_self_of_lt hl]
theorem patch_ne (h : Heap) (ps) {b : Addr} (hb : b ≠ 48) : (patch h ps).get? b = h.get? b := by
  unfold Heap.get? patch
  rw [Array.getElem?_setIfInBounds_ne (Ne.symm hb)]
theorem baseAt_hole (h : Heap) (hl : 48 < h.objs.size) (ps : Array Value) : BaseAt (hole h) (patch h ps) ps :=
  ⟨patch_self h ps hl, fun b hb => by rw [patch_ne h ps hb, hole_ne h hb]⟩
theorem ns_hole {h : Heap} {a : Addr} {m} (hn : h.Ns a m) (ha : a ≠ 48) : (hole h).Ns a m := by
  obtain ⟨o, es, ep, ho, r⟩ := hn
  exact ⟨o, es, ep, (hole_ne h ha).trans ho, r⟩
end Mine

namespace Mine
open _root_.PySem _root_.PySem.W PyProof.Rows _root_.PySem.Calls

variable {P : Params} {mg mb : Str → Option Value}

noncomputable def mgOf (P : Params) (x : Str) : Option Value := match (MineH.heapK P).lookup 3 with
  | some o => (match o.data with
    | .dict es _ => nsFind es x
    | _ => none)
  | none => none
theorem keys48 : ∀ p ∈ MineH.heapK P, p.1 ≠ 48 := by
  have e : (MineH.heapK P).map (·.1) = [3, 15, 16, 17, 18, 19, 20, 21, 22, 23, 24, 30, 31, 37, 38, 44, 45, 46, 52, 53, 59, 60, 64, 65, 71, 72, 76, 77] := by kernel_rfl
  intro p hp q
  have : p.1 ∈ (MineH.heapK P).map (·.1) := List.mem_map_of_mem hp
  rw [e, q] at this
  exact absurd this (by decide)
theorem lookup_mem {K : Frag} (hn : (K.map (·.1)).Nodup) {p : Addr × Obj} (hp : p ∈ K) : K.lookup p.1 = some p.2 := by
  induction K with
  | nil => cases hp
  | cons q r ih =>
    obtain ⟨a, o⟩ := q
    obtain ⟨hna, hnr⟩ := List.nodup_cons.mp hn
    rcases List.mem_cons.mp hp with rfl | hp
    · simp [List.lookup]
    · have : p.1 ≠ a := fun q => hna (by rw [← q]; exact List.mem_map_of_mem (f := (·.1)) hp)
      rw [List.lookup, show (p.1 == a) = false from beq_eq_false_iff_ne.mpr this]
      exact ih hnr hp
theorem nodup48 : ((MineH.heapK P).map (·.1)).Nodup := by
  have e : (MineH.heapK P).map (·.1) = [3, 15, 16, 17, 18, 19, 20, 21, 22, 23, 24, 30, 31, 37, 38, 44, 45, 46, 52, 53, 59, 60, 64, 65, 71, 72, 76, 77] := by kernel_rfl
  rw [e]
  decide
theorem frag_in {h : Heap} (K : (MineH.frag2 P).In h) {k : Nat} {o : Obj} (e : (MineH.heapK P).lookup k = some o) : h.get? k = some o :=
  K _ _ (by
    unfold MineH.frag2
    rw [List.lookup]
    have hk : k ≠ 48 := keys48 _ (mem_of_lookup' e)
    rw [show (k == 48) = false from beq_eq_false_iff_ne.mpr hk]
    exact e)
theorem mg_of {h : Heap} (K : (MineH.frag2 P).In h) (g : h.Ns mainGlobals mg) (x : Str) : mg x = mgOf P x := by
  obtain ⟨o, es, ep, ho, hd, _, hx⟩ := g
  have h3 : (MineH.heapK P).lookup 3 = some (((MineH.heapK P).lookup 3).getD default) := by kernel_rfl
  have := frag_in K h3
  rw [show h.get? 3 = some o from ho] at this
  cases this
  unfold mgOf
  rw [h3]
  dsimp only
  rw [hd]
  exact (hx x).symm
theorem tab_in {h : Heap} (K : (MineH.frag2 P).In h) : h.get? 48 = some { cls := .none, data := .fields #[] } := K _ _ rfl

theorem wd_of {p : Program} {loose : List Str} {mean : ExcName → Option Value} {h : Heap} {scr : Addr} (T : Top p loose mean mg mb h) (K : (MineH.frag2 P).In h) :
    Wd (hole h) [48, 15, 16, 17, 18, 19, 20, 21, 22, 23, 24, scr] 12 P mg mb where
  gl := {
    g := ns_hole T.g (by decide)
    b := ns_hole T.b (by decide)
    lim := let ⟨mc, h1, h2⟩ := T.nolimit; ⟨mc, ns_hole h1 (by decide), h2⟩ }
  frag := fun p hp => (hole_ne h (keys48 p hp)).trans (frag_in K (lookup_mem nodup48 hp))
  tab := hole_self h
  fz := ⟨scr, rfl⟩
  nf := rfl
  bm := by
    obtain ⟨bm, ob, h1, h2, h3, h4, h5, h6⟩ := T.bmain
    refine ⟨bm, ob, h1, h2, (hole_ne h fun q => ?_).trans h3, h4, h5, h6⟩
    subst q
    rw [tab_in K] at h3; cases h3; cases h4
  m1 := (mg_of K T.g _).trans (by kernel_rfl)
  m2 := (mg_of K T.g _).trans (by kernel_rfl)
  m3 := (mg_of K T.g _).trans (by kernel_rfl)
  m4 := (mg_of K T.g _).trans (by kernel_rfl)
  fp := (mg_of K T.g _).trans (by kernel_rfl)
  d1 := (mg_of K T.g _).trans (by kernel_rfl)
  d2 := (mg_of K T.g _).trans (by kernel_rfl)
  d3 := (mg_of K T.g _).trans (by kernel_rfl)
  d4 := (mg_of K T.g _).trans (by kernel_rfl)
  d5 := (mg_of K T.g _).trans (by kernel_rfl)
  d6 := (mg_of K T.g _).trans (by kernel_rfl)
  d7 := (mg_of K T.g _).trans (by kernel_rfl)
  nb := fun x hx => by
    simp only [List.mem_cons, List.not_mem_nil, or_false] at hx
    rcases hx with rfl | rfl | rfl | rfl | rfl | rfl | rfl | rfl | rfl | rfl <;> exact ⟨(mg_of K T.g _).trans (by kernel_rfl), T.builtins _ (by decide +kernel)⟩
theorem mg_law {h : Heap} (K : (MineH.frag2 P).In h) (g : h.Ns mainGlobals mg) : mg "law" = some (.ref 77) := (mg_of K g _).trans (by kernel_rfl)

/-! ### the mini heap at the start -/
noncomputable def patRows : List (List Int) := [[0,0,0,0,0,0,0,0,0],[0,1,1,1,1,1,1,1,0],[0,1,0,0,0,0,0,1,0],[0,1,0,1,1,1,0,1,0],[0,1,0,1,1,1,0,1,0],[0,1,0,1,1,1,0,1,0],[0,1,0,0,0,0,0,1,0],[0,1,1,1,1,1,1,1,0],[0,0,0,0,0,0,0,0,0]]
noncomputable def Hp0 (xs : List Int) : Hp := .tab :: patRows.map (fun r => .tup (r.map .int)) ++ [.tup ((List.range 9).map fun i => .ref (i + 1)), .list (xs.map .int)]
noncomputable def locS : Loc := some (.ref 11) :: List.replicate 12 none
theorem ints_vrs {α : List Addr} : ∀ {vs : List Value} {xs : List Int}, IntsAre vs xs → VRs α (xs.map .int) vs
  | _, _, .nil => .nil
  | _, _, .cons n t r => .cons (.int n t) (ints_vrs r)
/-- a row of the pattern in the heap's fragment -/
noncomputable def valsInts : List Value → List Int → Bool
  | [], [] => true
  | .int i _ :: vs, x :: xs => i == x && valsInts vs xs
  | _, _ => false
theorem valsInts_vrs {α : List Addr} : ∀ {vs : List Value} {xs : List Int}, valsInts vs xs = true → VRs α (xs.map .int) vs
  | [], [], _ => .nil
  | [], x :: xs, h => by simp [valsInts] at h
  | v :: vs, [], h => by cases v <;> simp [valsInts] at h
  | v :: vs, x :: xs, h => by
    cases v with
    | int i t =>
      simp only [valsInts, Bool.and_eq_true, beq_iff_eq] at h
      obtain ⟨rfl, h⟩ := h
      exact .cons (.int i t) (valsInts_vrs h)
    | _ => simp [valsInts] at h
noncomputable def isTup (o : Obj) : Option (List Value × Nat) := match o with
  | ⟨.type n, none, .seq vs k, sl⟩ => if n = "tuple" ∧ sl.toList.length = 0 then some (vs.toList, k) else none
  | _ => none
theorem isTup_eq {o : Obj} {vs : List Value} {n : Nat} (h : isTup o = some (vs, n)) : o = { cls := .type "tuple", dict := none, data := .seq vs.toArray n, slots := #[] } := by
  obtain ⟨cls, dict, data, slots⟩ := o
  unfold isTup at h
  split at h
  · rename_i n' vs' k sl e
    cases e
    split at h
    · rename_i hc
      obtain ⟨rfl, hs⟩ := hc
      cases h
      have : slots = #[] := by
        apply Array.ext'
        exact List.eq_nil_of_length_eq_zero hs
      subst this
      rfl
    · cases h
  · cases h
noncomputable def rowAt (K : Frag) (k : Nat) (xs : List Int) : Bool := match K.lookup k with
  | some o => (match isTup o with
    | some (vs, _) => valsInts vs xs
    | none => false)
  | none => false
theorem rowAt_in {h : Heap} (K : (MineH.frag2 P).In h) {k : Nat} {xs : List Int} {α : List Addr} (e : rowAt (MineH.heapK P) k xs = true) : ∃ o, h.get? k = some o ∧ OR α (.tup (xs.map .int)) o := by
  unfold rowAt at e
  split at e
  · rename_i o eo
    split at e
    · rename_i vs n ei
      refine ⟨o, frag_in K eo, ?_⟩
      rw [isTup_eq ei]
      exact .tup (valsInts_vrs e)
    · cases e
  · cases e
noncomputable def valsRefs : List Value → List Addr → Bool
  | [], [] => true
  | .ref i :: vs, x :: xs => i == x && valsRefs vs xs
  | _, _ => false
theorem pat_in {h : Heap} (K : (MineH.frag2 P).In h) {scr : Addr} : ∃ o, h.get? 24 = some o ∧ OR [48, 15, 16, 17, 18, 19, 20, 21, 22, 23, 24, scr] (.tup ((List.range 9).map fun i => .ref (i + 1))) o := by
  have e : (MineH.heapK P).lookup 24 = some { cls := .type "tuple", dict := none, data := .seq [Value.ref 15, .ref 16, .ref 17, .ref 18, .ref 19, .ref 20, .ref 21, .ref 22, .ref 23].toArray 0, slots := #[] } := by kernel_rfl
  refine ⟨_, frag_in K e, .tup ?_⟩
  exact .cons (.ref _ _ rfl) (.cons (.ref _ _ rfl) (.cons (.ref _ _ rfl) (.cons (.ref _ _ rfl) (.cons (.ref _ _ rfl) (.cons (.ref _ _ rfl) (.cons (.ref _ _ rfl) (.cons (.ref _ _ rfl) (.cons (.ref _ _ rfl) .nil))))))))
theorem start_obj {h : Heap} (K : (MineH.frag2 P).In h) {scr : Addr} {vs : List Value} {xs : List Int} {n : Nat} (hl : h.get? scr = some { cls := .type "list", dict := none, data := .seq vs.toArray n, slots := #[] }) (hv : IntsAre vs xs) :
    ∀ (k : Nat) mo, (Hp0 xs)[k]? = some mo → ∃ a o, ([48, 15, 16, 17, 18, 19, 20, 21, 22, 23, 24, scr] : List Addr)[k]? = some a ∧ h.get? a = some o ∧ OR [48, 15, 16, 17, 18, 19, 20, 21, 22, 23, 24, scr] mo o := by
  have key : ∀ (a : Nat) (r : List Int), rowAt (MineH.heapK P) a r = true → ∃ b o, some a = some b ∧ h.get? b = some o ∧ OR [48, 15, 16, 17, 18, 19, 20, 21, 22, 23, 24, scr] (.tup (r.map .int)) o := fun a r e => by
    obtain ⟨o, h1, h2⟩ := rowAt_in K (α := [48, 15, 16, 17, 18, 19, 20, 21, 22, 23, 24, scr]) e
    exact ⟨a, o, rfl, h1, h2⟩
  intro k mo e
  match k, e with
  | 0, e => cases e; exact ⟨48, _, rfl, tab_in K, .tab trivial⟩
  | 1, e => cases e; exact key 15 _ (by kernel_rfl)
  | 2, e => cases e; exact key 16 _ (by kernel_rfl)
  | 3, e => cases e; exact key 17 _ (by kernel_rfl)
  | 4, e => cases e; exact key 18 _ (by kernel_rfl)
  | 5, e => cases e; exact key 19 _ (by kernel_rfl)
  | 6, e => cases e; exact key 20 _ (by kernel_rfl)
  | 7, e => cases e; exact key 21 _ (by kernel_rfl)
  | 8, e => cases e; exact key 22 _ (by kernel_rfl)
  | 9, e => cases e; exact key 23 _ (by kernel_rfl)
  | 10, e =>
    cases e
    obtain ⟨o, h1, h2⟩ := pat_in K (scr := scr)
    exact ⟨24, o, rfl, h1, h2⟩
  | 11, e => cases e; exact ⟨scr, _, rfl, hl, .list (ints_vrs hv)⟩
  | k + 12, e => exact absurd e (by
      have : (Hp0 xs).length = 12 := by simp [Hp0, patRows]
      rw [List.getElem?_eq_none (by omega)]; nofun)
end Mine

namespace Mine
open _root_.PySem _root_.PySem.W PyProof.Rows _root_.PySem.Calls

/-- what the plain law must show of a script -/
noncomputable def GoodScript (xs : List Int) : Prop := ∃ loc H, f_law_pre locS (Hp0 xs) = some (.next, loc, H) ∧
  ((∃ H2 loc' H3, callX acArgs F_add_codewords loc H = some (.none, H2) ∧ f_law_post loc H2 = some (.ret (.bool true), loc', H3) ∧ H3[0]? = some .tab) ∨
   (∃ vs H1 H2 loc2 i k ys, acArgs loc H = some (vs, H1) ∧ vs.length = 3 ∧ f_ac_pre (vs.map some ++ List.replicate 13 none) H1 = some (.next, loc2, H2) ∧ loc2[6]? = some (some (.int i)) ∧ loc2[1]? = some (some (.ref k)) ∧
     H2[k]? = some (.list ys) ∧ ys.length < 1000000 ∧ i.natAbs < 10 ^ 10 ∧ i ≠ ys.length ∧ H2[0]? = some .tab ∧ loc[6]? = some (some (.int 4))))

theorem law_body {C : Cx} {P : Params} {mg mb : Str → Option Value} {L : Nat} (X : Wd C.W C.fz C.nf P mg mb) (K : COk (callee C (fdA P 77) nm_law L 77)) (hroom : C.A.depth + 40 < recursionLimit) (hu0 : C.A.units + 100 < cLine) (hfr : C.A.frames = some [])
    (hbase : ∀ ps, ∃ base, BaseAt C.W base ps) {B : Base} {α : List Addr} {xs : List Int} {s : Shared} (R : Rel (callee C (fdA P 77) nm_law L 77) B α locS (Hp0 xs) s) (hp : GoodScript xs)
    {Q : Flow → Shared → Prop} {E : Value → Shared → Prop} (hQ : ∀ s', Fin C s' → Q (.ret (.bool true)) s') : wpC (model C.prog C.w) (callee C (fdA P 77) nm_law L 77).A (execs (bodyOf (fdA P 77)) (callee C (fdA P 77) nm_law L 77).env) Q E s := by
  obtain ⟨loc, H, e1, hp⟩ := hp
  rw [show bodyOf (fdA P 77) = List.take 11 (bodyOf (fdA P 77)) ++ List.drop 11 (bodyOf (fdA P 77)) from (List.take_append_drop 11 _).symm]
  refine C_execs_append ((sim_law_pre X K hroom).go R e1 fun α1 r1 s1 p1 R1 f1 => ?_)
  cases f1
  dsimp only
  rcases hp with ⟨H2, loc', H3, a1, a2, a3⟩ | ⟨vs, H1, H2, loc2, i, k, ys, a1, a2, a3, a4, a5, a6, a7, a8, a9, a10, a11⟩
  · exact law_rest_ok X K hroom hu0 R1 a1 a2 a3 hQ
  · exact law_rest_raise X K hroom hfr hbase R1 a1 a2 a3 a4 a5 a6 a7 a8 a9 a10 a11 hQ

noncomputable def fieldsOf (d : Data) : Array Value := match d with
  | .fields vs => vs
  | _ => #[]
theorem code52 {P : Params} {h : Heap} (K : (MineH.frag2 P).In h) : isCodeTable h 48 := by
  have e : (MineH.heapK P).lookup 52 = some (((MineH.heapK P).lookup 52).getD default) := by kernel_rfl
  have h1 : (((MineH.heapK P).lookup 52).getD default).data = .fields (fieldsOf (((MineH.heapK P).lookup 52).getD default).data) := by kernel_rfl
  exact ⟨52, _, _, frag_in K e, by kernel_rfl, h1, by kernel_rfl⟩

theorem list_of_well {P : Params} {h : Heap} {a : Addr} {us : List Value} {xs : List Int} (w : Well P h (.ref a) (ofPy (.list (xs.map .int)))) (l : h.IsList a us.toArray) :
    ∃ n, h.get? a = some { cls := .type "list", dict := none, data := .seq us.toArray n, slots := #[] } := by
  obtain ⟨o, ho, hc, n, hd⟩ := l
  have key : ∃ vs : List Value, h.get? a = some { cls := .type "list", data := .seq vs.toArray } := by
    generalize hq : ofPy (.list (xs.map .int)) = d at w
    simp only [ofPy] at hq
    subst hq
    cases w with
    | list h1 _ => exact ⟨_, h1⟩
  obtain ⟨vs, hv⟩ := key
  rw [ho] at hv
  cases hv
  cases hd
  exact ⟨_, ho⟩

theorem tup_not_list {α : List Addr} {xs : List V} {vs : Array Value} {n : Nat} (h : OR α (.tup xs) { cls := .type "list", dict := none, data := .seq vs n, slots := #[] }) : False := by
  have : ∀ o : Obj, OR α (.tup xs) o → o.cls = .type "tuple" := fun o x => by cases x; rfl
  have := this _ h
  simp at this
theorem nodup_fz {P : Params} {h : Heap} (K : (MineH.frag2 P).In h) {scr : Addr} {vs : List Value} {n : Nat} (hl : h.get? scr = some { cls := .type "list", dict := none, data := .seq vs.toArray n, slots := #[] }) :
    ([48, 15, 16, 17, 18, 19, 20, 21, 22, 23, 24, scr] : List Addr).Nodup := by
  have key : ∀ (a : Nat) (r : List Int), rowAt (MineH.heapK P) a r = true → a ≠ scr := fun a r e q => by
    subst q
    obtain ⟨o, h1, h2⟩ := rowAt_in K (α := []) e
    rw [h1] at hl; cases hl; exact tup_not_list h2
  have k0 : (48 : Nat) ≠ scr := fun q => by subst q; rw [tab_in K] at hl; cases hl
  have k10 : (24 : Nat) ≠ scr := fun q => by
    subst q
    obtain ⟨o, h1, h2⟩ := pat_in K (scr := 0)
    rw [h1] at hl; cases hl; exact tup_not_list h2
  have k1 : (15 : Nat) ≠ scr := key 15 [0,0,0,0,0,0,0,0,0] (by kernel_rfl)
  have k2 : (16 : Nat) ≠ scr := key 16 [0,1,1,1,1,1,1,1,0] (by kernel_rfl)
  have k3 : (17 : Nat) ≠ scr := key 17 [0,1,0,0,0,0,0,1,0] (by kernel_rfl)
  have k4 : (18 : Nat) ≠ scr := key 18 [0,1,0,1,1,1,0,1,0] (by kernel_rfl)
  have k5 : (19 : Nat) ≠ scr := key 19 [0,1,0,1,1,1,0,1,0] (by kernel_rfl)
  have k6 : (20 : Nat) ≠ scr := key 20 [0,1,0,1,1,1,0,1,0] (by kernel_rfl)
  have k7 : (21 : Nat) ≠ scr := key 21 [0,1,0,0,0,0,0,1,0] (by kernel_rfl)
  have k8 : (22 : Nat) ≠ scr := key 22 [0,1,1,1,1,1,1,1,0] (by kernel_rfl)
  have k9 : (23 : Nat) ≠ scr := key 23 [0,0,0,0,0,0,0,0,0] (by kernel_rfl)
  rw [show ([48, 15, 16, 17, 18, 19, 20, 21, 22, 23, 24, scr] : List Addr) = [48, 15, 16, 17, 18, 19, 20, 21, 22, 23, 24] ++ [scr] from rfl, List.nodup_append]
  refine ⟨by decide, by simp, fun x hx y hy => ?_⟩
  simp only [List.mem_cons, List.not_mem_nil, or_false] at hx hy
  subst hy
  rcases hx with rfl | rfl | rfl | rfl | rfl | rfl | rfl | rfl | rfl | rfl | rfl <;> assumption

set_option maxHeartbeats 4000000 in
theorem asked_of (hp : ∀ xs : List Int, xs.length ≤ 63 → GoodScript xs) : MineH.Asked := by
  intro w s₀ s₁ mg mb G Y fa o pm cd doc dV kV ho hd hcd hD hmg hg args vals as hpre hlay hrd hwl hlo
  have KX : (MineH.frag2 w.params).In s₁.heap := kIn_of Y
  wrow_args hpre hlay hrd hwl hlo
  rename_i xs _ _ _ _ _ as1 as2 scr us as3 hL ra w1 r0 hI hr hc _
  clear ra r0 hr
  obtain ⟨n, hscr⟩ := list_of_well w1 hL
  have hlaw : fa = 77 := by
    have h1 := mg_law KX G.T.g
    have h2 : mg "law" = some (.ref fa) := hmg
    rw [h1] at h2
    injection h2 with h2
    injection h2 with h2
    exact h2.symm
  subst hlaw
  have hlt : 48 < s₁.heap.objs.size := Heap.lt_size (tab_in KX)
  let C : Cx := { prog := _root_.PySem.Challenge.rw_im0115_01.row.prog, w := w, A := callerA, env := callEnvC (fdA w.params 77) 0 77, W := hole s₁.heap, nf := 12, names := [], fz := [48, 15, 16, 17, 18, 19, 20, 21, 22, 23, 24, scr], os := s₁.os }
  have X : Wd C.W C.fz C.nf w.params mg mb := wd_of G.T KX
  have hobj := start_obj KX hscr hI
  refine wpC_call ?_
  refine enter_top (C := C) (H := Hp0 xs) (nl := 12) (vs := [.ref 11]) rfl (show callerA.depth < recursionLimit by decide) (dok_law X) (fun b o e => (hole_get e).1) (hole_size _) (by simp [C, Hp0, patRows]) ?_ hobj rfl rfl ?_ rfl ?_ fun L s₂ K R => ?_
  · exact nodup_fz KX hscr
  · exact .of_eq hg
  · exact .cons (.ref _ _ rfl) .nil
  · refine law_body X K (show callerA.depth + 40 < recursionLimit by decide) (show callerA.units + 100 < cLine by decide) rfl (fun ps => ⟨_, baseAt_hole _ hlt ps⟩) R (hp xs (by omega)) fun s' hf => ?_
    obtain ⟨f1, f2, f3, ps, f4⟩ := hf
    show GoodWG _ _ _ _ _ (.ok (.ret (.bool true))) _
    refine ⟨.inl ⟨_, .bool true, [], rfl, ?_, .bool _, ?_, fun _ => ⟨List.nodup_nil, fun a ha => (List.not_mem_nil ha).elim⟩⟩, ?_, f1, f2⟩
    · exact raisesW_false (by wrow_none_raised)
    · wrow_post
    · have kp : ∀ b o, b ≠ 48 → s₁.heap.get? b = some o → s'.heap.get? b = some o := fun b o hb e => f3 b o ((hole_ne _ hb).trans e)
      refine ⟨fun b o e => ?_, fun b o e => ?_⟩
      · by_cases hb : b = 48
        · subst hb
          rw [tab_in KX] at e
          cases e
          exact .inr (.inl ⟨code52 KX, rfl, #[], ps, rfl, by simpa using f4⟩)
        · exact .inl (kp b o hb e)
      · by_cases hb : b = 48
        · subst hb; exact ⟨_, f4⟩
        · exact ⟨o, kp b o hb e⟩
end Mine

namespace Mine

/-! ## the plain law: filling a grid -/
abbrev Grid := List (List Nat)
abbrev Cell := Nat × Nat
noncomputable def g2 (G : Grid) (c : Cell) : Option Nat := (G[c.1]?).bind (·[c.2]?)
noncomputable def s2 (G : Grid) (c : Cell) (b : Nat) : Grid := G.modify c.1 (·.set c.2 b)
theorem g2_other {G : Grid} {c d : Cell} {b : Nat} (h : c ≠ d) : g2 (s2 G c b) d = g2 G d := by
  unfold g2 s2
  rw [List.getElem?_modify]
  by_cases h1 : c.1 = d.1
  · simp only [h1, if_true]
    cases e : G[d.1]? with
    | none => rfl
    | some r =>
      have h2 : c.2 ≠ d.2 := fun q => h (Prod.ext h1 q)
      simp [List.getElem?_set_ne h2]
  · simp [h1]
/-- cells are visited in turn: an open one takes the next bit -/
noncomputable def fill (G : Grid) : List Cell → List Nat → Grid × List Nat
  | [], r => (G, r)
  | c :: cs, r => if g2 G c = some 2 then (match r with
      | [] => fill G cs []
      | b :: r' => fill (s2 G c b) cs r') else fill G cs r
/-- the open cells take the bits -/
noncomputable def lay (G : Grid) : List Cell → List Nat → Grid
  | c :: cs, b :: r => lay (s2 G c b) cs r
  | _, _ => G
theorem lay_nil (G : Grid) (cs : List Cell) : lay G cs [] = G := by cases cs <;> rfl
theorem fill_lay : ∀ (cs : List Cell) (G : Grid) (r : List Nat), cs.Nodup → (fill G cs r).1 = lay G (cs.filter fun c => g2 G c == some 2) r ∧ (fill G cs r).2 = r.drop (cs.filter fun c => g2 G c == some 2).length
  | [], G, r, _ => by
    refine ⟨?_, ?_⟩
    · cases r <;> rfl
    · simp [fill]
  | c :: cs, G, r, h => by
    obtain ⟨hc, hn⟩ := List.nodup_cons.mp h
    by_cases h2 : g2 G c = some 2
    · rw [List.filter_cons_of_pos (by simp [h2])]
      cases r with
      | nil =>
        obtain ⟨i1, i2⟩ := fill_lay cs G [] hn
        rw [fill, if_pos h2]
        rw [lay_nil] at i1
        rw [lay_nil]
        exact ⟨i1, by rw [i2]; simp⟩
      | cons b r' =>
        obtain ⟨i1, i2⟩ := fill_lay cs (s2 G c b) r' hn
        rw [fill, if_pos h2]
        have e : cs.filter (fun d => g2 (s2 G c b) d == some 2) = cs.filter (fun d => g2 G d == some 2) := by
          apply List.filter_congr
          intro d hd
          rw [g2_other (fun q => hc (by rw [q]; exact hd))]
        rw [e] at i1 i2
        exact ⟨by rw [i1, lay], by rw [i2, List.length_cons, List.drop_succ_cons]⟩
    · rw [List.filter_cons_of_neg (by simpa using h2)]
      have e : fill G (c :: cs) r = fill G cs r := by conv => lhs; unfold fill
                                                      rw [if_neg h2]
      rw [e]
      exact fill_lay cs G r hn
end Mine

namespace Mine
open _root_.PySem _root_.PySem.W

theorem rngLoop_inv {asg : V → Loc → Hp → Option Loc} {body : SF} {a c : Int} (I : Nat → Loc → Hp → Prop) (n : Nat)
    (step : ∀ i, i < n → ∀ loc H, I i loc H → ∃ loc1 loc2 H2, asg (.int (a + i * c)) loc H = some loc1 ∧ body loc1 H = some (.next, loc2, H2) ∧ I (i + 1) loc2 H2) :
    ∀ (k i : Nat) loc H, i + k = n → I i loc H → ∃ loc' H', rngLoop asg body a c k i loc H = some (.next, loc', H') ∧ I n loc' H'
  | 0, i, loc, H, e, h => ⟨loc, H, rfl, by have : i = n := by omega
                                           subst this; exact h⟩
  | k + 1, i, loc, H, e, h => by
    obtain ⟨loc1, loc2, H2, h1, h2, h3⟩ := step i (by omega) loc H h
    obtain ⟨loc', H', h4, h5⟩ := rngLoop_inv I n step k (i + 1) loc2 H2 (by omega) h3
    refine ⟨loc', H', ?_, h5⟩
    rw [rngLoop, h1]
    dsimp only
    rw [h2]
    exact h4

theorem consS_assign' {k : Nat} {f : XF} {g : SF} {loc : Loc} {H H1 : Hp} {v : V} (h : f loc H = some (v, H1)) : consS (assignF k f) g loc H = g (loc.set k (some v)) H1 := by
  simp only [consS, assignF, h]
theorem iteX_t {t : TF} {f g : XF} {loc : Loc} {H H1 : Hp} (h : t loc H = some (true, H1)) : iteX t f g loc H = f loc H1 := by simp only [iteX, h]
theorem iteX_f {t : TF} {f g : XF} {loc : Loc} {H H1 : Hp} (h : t loc H = some (false, H1)) : iteX t f g loc H = g loc H1 := by simp only [iteX, h]
theorem cell_i {a0 a1 a2 a4 a5 a6 a7 a8 a9 a11 a12 e14 e15 : Option V} {H : Hp} {n vert ci : Int} {u : Bool} (hi' : (if u then n - 1 - vert else vert) = ci) :
    iteX (boolT (varX 13)) (binX .Sub (binX .Sub (varX 3) (intX 1)) (varX 10)) (varX 10) [a0, a1, a2, some (.int n), a4, a5, a6, a7, a8, a9, some (.int vert), a11, a12, some (.bool u), e14, e15] H = some (.int ci, H) := by
  cases u with
  | false =>
    rw [iteX_f (H1 := H) rfl, ← hi']
    rfl
  | true =>
    rw [iteX_t (H1 := H) rfl, ← hi']
    rfl
theorem idxX_of' {f g : XF} {loc : Loc} {H H1 H2 : Hp} {a i v : V} (h1 : f loc H = some (a, H1)) (h2 : g loc H1 = some (i, H2)) (h3 : idxV a i H2 = some v) : idxX f g loc H = some (v, H2) := by
  simp only [idxX, h1, h2, h3]
theorem cell_ir {a1 a2 a4 a5 a6 a7 a8 a9 a11 a12 e14 e15 : Option V} {m r : V} {H : Hp} {n vert ci : Int} {u : Bool} (hi' : (if u then n - 1 - vert else vert) = ci) (h1 : idxV m (.int ci) H = some r) (k : SF) :
    consS (assignF 14 (iteX (boolT (varX 13)) (binX .Sub (binX .Sub (varX 3) (intX 1)) (varX 10)) (varX 10))) (consS (assignF 15 (idxX (varX 0) (varX 14))) k) [some m, a1, a2, some (.int n), a4, a5, a6, a7, a8, a9, some (.int vert), a11, a12, some (.bool u), e14, e15] H =
    k [some m, a1, a2, some (.int n), a4, a5, a6, a7, a8, a9, some (.int vert), a11, a12, some (.bool u), some (.int ci), some r] H := by
  rw [consS_assign' (cell_i hi')]
  rw [consS_assign' (idxX_of' (a := m) (i := .int ci) (H1 := H) rfl rfl h1)]
  rfl

theorem cond_run {T : TF} {S : SF} {loc : Loc} {H : Hp} {p : Prop} [Decidable p] (h : T loc H = some (decide p, H)) : consS (ifF T S nilS) nilS loc H = if p then consS S nilS loc H else some (.next, loc, H) := by
  by_cases hp : p
  · simp only [consS, ifF, h, hp, decide_true, if_true]
  · simp only [consS, ifF, h, hp, decide_false, if_false, nilS]
theorem cell_cond {f a b : XF} {loc : Loc} {H : Hp} {x t n : Nat} (hx : f loc H = some (.int x, H)) (ht : a loc H = some (.int t, H)) (hn : b loc H = some (.int n, H)) :
    andT (cmpT .Eq f (intX 2)) (cmpT .Lt a b) loc H = some (decide (x = 2 ∧ t < n), H) := by
  have e1 : cmpT .Eq f (intX 2) loc H = some ((x : Int) == 2, H) := by simp only [cmpT, hx, intX, cmpV]
  have e2 : cmpT .Lt a b loc H = some (decide ((t : Int) < n), H) := by simp only [cmpT, ht, hn, cmpV]
  by_cases hx2 : x = 2
  · subst hx2
    have e3 : cmpT .Eq f (intX 2) loc H = some (true, H) := e1
    simp only [andT, e3, e2]
    by_cases h : t < n <;> simp [h]
  · have e3 : cmpT .Eq f (intX 2) loc H = some (false, H) := by
      rw [e1]
      have : ((x : Int) == 2) = false := by
        rw [beq_eq_false_iff_ne]
        omega
      rw [this]
    simp only [andT, e3]
    simp [hx2]

/-! ### one cell of add_codewords -/
noncomputable def bodyZ : SF := (consS (assignF 12 (binX .Sub (varX 9) (varX 11))) (consS (assignF 13 (cmpX .Eq (binX .BitAnd (binX .Add (varX 9) (varX 5)) (intX 2)) (intX 0))) (consS (ifF (notT (boolT (varX 4))) (consS (augF 13 .BitXor (cmpX .Lt (varX 12) (intX 6))) nilS) nilS) (consS (assignF 14 (iteX (boolT (varX 13)) (binX .Sub (binX .Sub (varX 3) (intX 1)) (varX 10)) (varX 10))) (consS (assignF 15 (idxX (varX 0) (varX 14))) (consS (ifF (andT (cmpT .Eq (idxX (varX 15) (varX 12)) (intX 2)) (cmpT .Lt (varX 6) (varX 7))) (consS (storeF 12 (idxX (varX 1) (varX 6)) (varX 15) (varX 12)) (consS (augF 6 .Add (intX 1)) nilS)) nilS) nilS))))))
noncomputable def bodyV : SF := consS (forF (nameA 11) (varX 8) bodyZ) nilS
noncomputable def bodyR : SF := (consS (ifF (andT (notT (boolT (varX 4))) (cmpT .LtE (varX 9) (intX 6))) (consS (augF 9 .Sub (intX 1)) nilS) nilS) (consS (forF (nameA 10) (callX (consL (varX 3) nilL) rangeF) bodyV) nilS))
theorem ac_eq : f_ac_pre = (consS (assignF 3 (callX (consL (varX 0) nilL) lenF)) (consS (assignF 4 (cmpX .Lt (varX 2) (intX 1))) (consS (assignF 5 (iteX (cmpT .NotIn (varX 2) (tupX (consL (intX (-3)) (consL (intX (-1)) nilL)))) (intX 0) (intX 2))) (consS (assignF 6 (intX 0)) (consS (assignF 7 (callX (consL (varX 1) nilL) lenF)) (consS (assignF 8 (callX (consL (intX 2) nilL) rangeF))
  (consS (forF (nameA 9) (callX (consL (binX .Sub (varX 3) (intX 1)) (consL (intX 0) (consL (negX (intX 2)) nilL))) rangeF) bodyR) nilS))))))) := rfl

/-- the loop's way: up or not, as the code says -/
noncomputable def upOf (mic : Bool) (inc right z : Int) : Bool := if mic then (Builtin.bitAnd (right + inc) 2 == 0) else ((Builtin.bitAnd (right + inc) 2 == 0) != decide (right - z < 6))
noncomputable def iOf (mic : Bool) (n inc right vert z : Int) : Int := if upOf mic inc right z then n - 1 - vert else vert
noncomputable def bitsV (st : List Nat) : List V := st.map fun n : Nat => V.int (n : Int)
noncomputable def rowRefs (r0 n : Nat) : List V := (List.range n).map fun j => .ref (r0 + j)
theorem seqIndex_nat {i n : Nat} (h : i < n) : seqIndex? (i : Int) n = some i := by
  unfold seqIndex?
  simp
  omega

theorem consS_assign {k : Nat} {f : XF} {g : SF} {loc : Loc} {H H1 : Hp} {v : V} (h : f loc H = some (v, H1)) : consS (assignF k f) g loc H = g (loc.set k (some v)) H1 := by
  simp only [consS, assignF, h]
theorem idxX_of {f g : XF} {loc : Loc} {H H1 H2 : Hp} {a i v : V} (h1 : f loc H = some (a, H1)) (h2 : g loc H1 = some (i, H2)) (h3 : idxV a i H2 = some v) : idxX f g loc H = some (v, H2) := by
  simp only [idxX, h1, h2, h3]
theorem storeF_of {nf : Nat} {f g h : XF} {loc : Loc} {H H1 H2 H3 H4 : Hp} {a i v : V} (h1 : f loc H = some (v, H1)) (h2 : g loc H1 = some (a, H2)) (h3 : h loc H2 = some (i, H3)) (h4 : setV nf a i v H3 = some H4) : storeF nf f g h loc H = some (.next, loc, H4) := by
  simp only [storeF, h1, h2, h3, h4]
theorem consS_of {f g : SF} {loc loc1 : Loc} {H H1 : Hp} (h : f loc H = some (.next, loc1, H1)) : consS f g loc H = g loc1 H1 := by
  simp only [consS, h]
theorem augF_of {k : Nat} {op : Operator} {f : XF} {loc : Loc} {H H1 : Hp} {a b v : V} (h0 : loc[k]? = some (some a)) (h1 : f loc H = some (b, H1)) (h2 : augV op a b = some v) : augF k op f loc H = some (.next, loc.set k (some v), H1) := by
  simp only [augF, h0, h1, h2]
theorem cell_step {m c ver inc right vert z len : Int} {mk ck rt r0 n : Nat} {mic : Bool} {t : Nat} {e12 e13 e14 e15 : Option V} {H : Hp} {st : List Nat} {G : Grid} {ci cj : Nat} {row : List Nat} {x : Nat}
    (hm : H[mk]? = some (.tup (rowRefs r0 n))) (hc : H[ck]? = some (.list (bitsV st))) (hr0 : 12 ≤ r0) (hn : n < 1000)
    (hi : iOf mic n inc right vert z = ci) (hj : right - z = cj) (hci : ci < n) (hrow : H[r0 + ci]? = some (.ba row)) (hx : row[cj]? = some x) (hrl : row.length < 1000) (hst : st.length < 1000) (hb : ∀ b ∈ st, b < 2) (ht : t ≤ st.length) :
    bodyZ [some (.ref mk), some (.ref ck), some (.int ver), some (.int n), some (.bool mic), some (.int inc), some (.int t), some (.int st.length), some (.ref rt), some (.int right), some (.int vert), some (.int z), e12, e13, e14, e15] H =
      some (.next, [some (.ref mk), some (.ref ck), some (.int ver), some (.int n), some (.bool mic), some (.int inc), some (.int (if x = 2 ∧ t < st.length then t + 1 else t : Nat)), some (.int st.length), some (.ref rt), some (.int right), some (.int vert), some (.int z), some (.int cj), some (.bool (upOf mic inc right z)), some (.int ci), some (.ref (r0 + ci))],
        if x = 2 ∧ t < st.length then H.set (r0 + ci) (.ba (row.set cj (st[t]?.getD 0))) else H) := by
  have hcj : cj < row.length := (List.getElem?_eq_some_iff.mp hx).1
  have h1 : idxV (.ref mk) (.int ci) H = some (.ref (r0 + ci)) := by
    unfold idxV
    dsimp only
    rw [if_pos (by omega), hm]
    dsimp only
    rw [show (rowRefs r0 n).length = n by simp [rowRefs], seqIndex_nat hci]
    simp [rowRefs, hci]
  have h2 : idxV (.ref (r0 + ci)) (.int cj) H = some (.int x) := by
    unfold idxV
    dsimp only
    rw [if_pos (by omega), hrow]
    dsimp only
    rw [seqIndex_nat hcj]
    simp [hx]
  have hup : upOf mic inc right z = (if mic then (Builtin.bitAnd (right + inc) 2 == 0) else ((Builtin.bitAnd (right + inc) 2 == 0) != decide ((cj : Int) < 6))) := by
    unfold upOf
    rw [hj]
  have hi' : (if upOf mic inc right z then (n : Int) - 1 - vert else vert) = ci := hi
  generalize hu : upOf mic inc right z = u at *
  have hst' : ∀ (hx2 : x = 2) (htl : t < st.length), idxV (.ref ck) (.int t) H = some (.int (st[t]?.getD 0 : Nat)) ∧ setV 12 (.ref (r0 + ci)) (.int cj) (.int (st[t]?.getD 0 : Nat)) H = some (H.set (r0 + ci) (.ba (row.set cj (st[t]?.getD 0)))) := by
    intro hx2 htl
    have hbt : st[t]?.getD 0 < 2 := by
      rw [List.getElem?_eq_getElem htl]
      exact hb _ (List.getElem_mem _)
    constructor
    · unfold idxV
      dsimp only
      rw [if_pos (by omega), hc]
      dsimp only
      rw [show (bitsV st).length = st.length by simp [bitsV], seqIndex_nat htl]
      simp [bitsV, htl]
    · unfold setV
      dsimp only
      rw [if_pos (by omega), hrow]
      dsimp only
      rw [seqIndex_nat hcj]
      dsimp only
      rw [if_pos (by omega)]
      simp
  have hpre : ∀ k : SF, (consS (assignF 12 (binX .Sub (varX 9) (varX 11))) (consS (assignF 13 (cmpX .Eq (binX .BitAnd (binX .Add (varX 9) (varX 5)) (intX 2)) (intX 0))) (consS (ifF (notT (boolT (varX 4))) (consS (augF 13 .BitXor (cmpX .Lt (varX 12) (intX 6))) nilS) nilS) k)))
      [some (.ref mk), some (.ref ck), some (.int ver), some (.int n), some (.bool mic), some (.int inc), some (.int t), some (.int st.length), some (.ref rt), some (.int right), some (.int vert), some (.int z), e12, e13, e14, e15] H =
      k [some (.ref mk), some (.ref ck), some (.int ver), some (.int n), some (.bool mic), some (.int inc), some (.int t), some (.int st.length), some (.ref rt), some (.int right), some (.int vert), some (.int z), some (.int cj), some (.bool u), e14, e15] H := by
    intro k
    cases mic <;> simp [consS, assignF, binX, varX, binV, cmpX, cmpV, ifF, notT, boolT, augF, augV, nilS, intX, hj, hup]
  have h14 : ∀ k : SF, (consS (assignF 14 (iteX (boolT (varX 13)) (binX .Sub (binX .Sub (varX 3) (intX 1)) (varX 10)) (varX 10))) (consS (assignF 15 (idxX (varX 0) (varX 14))) k))
      [some (.ref mk), some (.ref ck), some (.int ver), some (.int n), some (.bool mic), some (.int inc), some (.int t), some (.int st.length), some (.ref rt), some (.int right), some (.int vert), some (.int z), some (.int cj), some (.bool u), e14, e15] H =
      k [some (.ref mk), some (.ref ck), some (.int ver), some (.int n), some (.bool mic), some (.int inc), some (.int t), some (.int st.length), some (.ref rt), some (.int right), some (.int vert), some (.int z), some (.int cj), some (.bool u), some (.int ci), some (.ref (r0 + ci))] H := by
    intro k
    exact cell_ir hi' h1 k
  have hT : ∀ (S : SF), consS (ifF (andT (cmpT .Eq (idxX (varX 15) (varX 12)) (intX 2)) (cmpT .Lt (varX 6) (varX 7))) S nilS) nilS
      [some (.ref mk), some (.ref ck), some (.int ver), some (.int n), some (.bool mic), some (.int inc), some (.int t), some (.int st.length), some (.ref rt), some (.int right), some (.int vert), some (.int z), some (.int cj), some (.bool u), some (.int ci), some (.ref (r0 + ci))] H =
      if x = 2 ∧ t < st.length then consS S nilS
      [some (.ref mk), some (.ref ck), some (.int ver), some (.int n), some (.bool mic), some (.int inc), some (.int t), some (.int st.length), some (.ref rt), some (.int right), some (.int vert), some (.int z), some (.int cj), some (.bool u), some (.int ci), some (.ref (r0 + ci))] H
      else some (.next, [some (.ref mk), some (.ref ck), some (.int ver), some (.int n), some (.bool mic), some (.int inc), some (.int t), some (.int st.length), some (.ref rt), some (.int right), some (.int vert), some (.int z), some (.int cj), some (.bool u), some (.int ci), some (.ref (r0 + ci))], H) := by
    intro S
    have hx' : idxX (varX 15) (varX 12) [some (.ref mk), some (.ref ck), some (.int ver), some (.int n), some (.bool mic), some (.int inc), some (.int t), some (.int st.length), some (.ref rt), some (.int right), some (.int vert), some (.int z), some (.int cj), some (.bool u), some (.int ci), some (.ref (r0 + ci))] H = some (.int x, H) := by
      exact idxX_of (H1 := H) (a := .ref (r0 + ci)) (i := .int cj) rfl rfl h2
    exact cond_run (cell_cond hx' rfl rfl)
  have hS : ∀ (hx2 : x = 2) (htl : t < st.length), consS (consS (storeF 12 (idxX (varX 1) (varX 6)) (varX 15) (varX 12)) (consS (augF 6 .Add (intX 1)) nilS)) nilS
      [some (.ref mk), some (.ref ck), some (.int ver), some (.int n), some (.bool mic), some (.int inc), some (.int t), some (.int st.length), some (.ref rt), some (.int right), some (.int vert), some (.int z), some (.int cj), some (.bool u), some (.int ci), some (.ref (r0 + ci))] H =
      some (.next, [some (.ref mk), some (.ref ck), some (.int ver), some (.int n), some (.bool mic), some (.int inc), some (.int ((t + 1 : Nat) : Int)), some (.int st.length), some (.ref rt), some (.int right), some (.int vert), some (.int z), some (.int cj), some (.bool u), some (.int ci), some (.ref (r0 + ci))], H.set (r0 + ci) (.ba (row.set cj (st[t]?.getD 0)))) := by
    intro hx2 htl
    obtain ⟨h3, h4⟩ := hst' hx2 htl
    have e1 : storeF 12 (idxX (varX 1) (varX 6)) (varX 15) (varX 12) [some (.ref mk), some (.ref ck), some (.int ver), some (.int n), some (.bool mic), some (.int inc), some (.int t), some (.int st.length), some (.ref rt), some (.int right), some (.int vert), some (.int z), some (.int cj), some (.bool u), some (.int ci), some (.ref (r0 + ci))] H =
        some (.next, [some (.ref mk), some (.ref ck), some (.int ver), some (.int n), some (.bool mic), some (.int inc), some (.int t), some (.int st.length), some (.ref rt), some (.int right), some (.int vert), some (.int z), some (.int cj), some (.bool u), some (.int ci), some (.ref (r0 + ci))], H.set (r0 + ci) (.ba (row.set cj (st[t]?.getD 0)))) := by
      have ei : idxX (varX 1) (varX 6) [some (.ref mk), some (.ref ck), some (.int ver), some (.int n), some (.bool mic), some (.int inc), some (.int t), some (.int st.length), some (.ref rt), some (.int right), some (.int vert), some (.int z), some (.int cj), some (.bool u), some (.int ci), some (.ref (r0 + ci))] H = some (.int (st[t]?.getD 0 : Nat), H) := idxX_of (H1 := H) (a := .ref ck) (i := .int t) rfl rfl h3
      exact storeF_of (H1 := H) (H2 := H) (H3 := H) (a := .ref (r0 + ci)) (i := .int cj) ei rfl rfl h4
    refine (consS_of ?_).trans rfl
    rw [consS_of e1]
    rw [consS_of (augF_of (a := .int t) (b := .int 1) (v := .int (t + 1)) rfl rfl rfl)]
    rfl
  unfold bodyZ
  rw [hpre, h14, hT]
  by_cases hc2 : x = 2 ∧ t < st.length
  · rw [if_pos hc2, if_pos hc2, if_pos hc2]
    exact hS hc2.1 hc2.2
  · rw [if_neg hc2, if_neg hc2, if_neg hc2]
end Mine

namespace Mine
open _root_.PySem _root_.PySem.W

/-! ### the loops of add_codewords -/
theorem fill_append : ∀ (a b : List Cell) (G : Grid) (r : List Nat), fill G (a ++ b) r = fill (fill G a r).1 b (fill G a r).2
  | [], b, G, r => rfl
  | c :: a, b, G, r => by
    by_cases h : g2 G c = some 2
    · cases r with
      | nil =>
        have e1 : fill G (c :: (a ++ b)) [] = fill G (a ++ b) [] := by conv => lhs; unfold fill
                                                                       rw [if_pos h]
        have e2 : fill G (c :: a) [] = fill G a [] := by conv => lhs; unfold fill
                                                         rw [if_pos h]
        rw [List.cons_append, e1, e2]
        exact fill_append a b G []
      | cons x r =>
        have e1 : fill G (c :: (a ++ b)) (x :: r) = fill (s2 G c x) (a ++ b) r := by conv => lhs; unfold fill
                                                                                     rw [if_pos h]
        have e2 : fill G (c :: a) (x :: r) = fill (s2 G c x) a r := by conv => lhs; unfold fill
                                                                       rw [if_pos h]
        rw [List.cons_append, e1, e2]
        exact fill_append a b _ r
    · have e1 : fill G (c :: (a ++ b)) r = fill G (a ++ b) r := by conv => lhs; unfold fill
                                                                   rw [if_neg h]
      have e2 : fill G (c :: a) r = fill G a r := by conv => lhs; unfold fill
                                                     rw [if_neg h]
      rw [List.cons_append, e1, e2]
      exact fill_append a b G r

/-- the rows lie in a heap, and all else stands -/
structure MI (H0 H : Hp) (r0 n : Nat) (G : Grid) : Prop where
  len : G.length = n
  rows : ∀ (i : Nat) row, G[i]? = some row → H[r0 + i]? = some (.ba row)
  wide : ∀ row ∈ G, row.length < 1000
  oth : ∀ (k : Nat) o, H0[k]? = some o → (k < r0 ∨ r0 + n ≤ k) → H[k]? = some o
theorem MI.set {H0 H : Hp} {r0 n : Nat} {G : Grid} (M : MI H0 H r0 n G) {ci cj b : Nat} {row : List Nat} (hr : G[ci]? = some row) : MI H0 (H.set (r0 + ci) (.ba (row.set cj b))) r0 n (s2 G (ci, cj) b) := by
  have hci : ci < n := by rw [← M.len]; exact (List.getElem?_eq_some_iff.mp hr).1
  have hlt : r0 + ci < H.length := (List.getElem?_eq_some_iff.mp (M.rows ci row hr)).1
  refine ⟨by simp [s2, M.len], fun i r h => ?_, fun r h => ?_, fun k o h1 h2 => ?_⟩
  · unfold s2 at h
    rw [List.getElem?_modify] at h
    by_cases hi : ci = i
    · subst hi
      rw [hr] at h
      simp at h
      subst h
      rw [List.getElem?_set_self hlt]
    · simp [hi] at h
      rw [List.getElem?_set_ne (by omega)]
      exact M.rows i r h
  · unfold s2 at h
    obtain ⟨i, hi⟩ := List.getElem?_of_mem h
    rw [List.getElem?_modify] at hi
    by_cases hc : ci = i
    · subst hc
      rw [hr] at hi
      simp at hi
      subst hi
      rw [List.length_set]
      exact M.wide row (List.mem_of_getElem? hr)
    · simp [hc] at hi
      exact M.wide r (List.mem_of_getElem? hi)
  · rw [List.getElem?_set_ne (by omega)]
    exact M.oth k o h1 h2
end Mine

namespace Mine
open _root_.PySem _root_.PySem.W

/-- what stays the same in add_codewords' frame -/
structure AC (H0 : Hp) (mk ck r0 n : Nat) (st : List Nat) : Prop where
  m : H0[mk]? = some (.tup (rowRefs r0 n))
  c : H0[ck]? = some (.list (bitsV st))
  mo : mk < r0 ∨ r0 + n ≤ mk
  co : ck < r0 ∨ r0 + n ≤ ck
  lo : 12 ≤ r0
  sm : n < 1000
  sl : st.length < 1000
  bits : ∀ b ∈ st, b < 2

noncomputable def acLoc (mk ck rt n : Nat) (ver inc : Int) (mic : Bool) (t len : Nat) (right vert z : Option V) (e12 e13 e14 e15 : Option V) : Loc :=
  [some (.ref mk), some (.ref ck), some (.int ver), some (.int n), some (.bool mic), some (.int inc), some (.int t), some (.int len), some (.ref rt), right, vert, z, e12, e13, e14, e15]

theorem cell_MI {H0 H : Hp} {mk ck r0 n rt : Nat} {st : List Nat} (A : AC H0 mk ck r0 n st) {G : Grid} (M : MI H0 H r0 n G) {ver inc right vert z : Int} {mic : Bool} {t : Nat} (ht : t ≤ st.length) {e12 e13 e14 e15 : Option V} {ci cj : Nat}
    (hi : iOf mic n inc right vert z = ci) (hj : right - z = cj) {x : Nat} (hx : g2 G (ci, cj) = some x) :
    ∃ t' f12 f13 f14 f15 H', t' ≤ st.length ∧ bodyZ (acLoc mk ck rt n ver inc mic t st.length (some (.int right)) (some (.int vert)) (some (.int z)) e12 e13 e14 e15) H =
        some (.next, acLoc mk ck rt n ver inc mic t' st.length (some (.int right)) (some (.int vert)) (some (.int z)) f12 f13 f14 f15, H') ∧
      MI H0 H' r0 n (fill G [(ci, cj)] (st.drop t)).1 ∧ (fill G [(ci, cj)] (st.drop t)).2 = st.drop t' := by
  obtain ⟨row, hr, hx'⟩ : ∃ row, G[ci]? = some row ∧ row[cj]? = some x := by
    unfold g2 at hx
    exact Option.bind_eq_some_iff.mp hx
  have hci : ci < n := by rw [← M.len]; exact (List.getElem?_eq_some_iff.mp hr).1
  have step := cell_step (m := 0) (c := 0) (len := 0) (rt := rt) (ver := ver) (inc := inc) (right := right) (vert := vert) (z := z) (mic := mic) (t := t) (e12 := e12) (e13 := e13) (e14 := e14) (e15 := e15) (H := H) (G := G) (M.oth _ _ A.m A.mo) (M.oth _ _ A.c A.co) A.lo A.sm hi hj hci (M.rows ci row hr) hx' (M.wide row (List.mem_of_getElem? hr)) A.sl A.bits ht
  by_cases hc : x = 2 ∧ t < st.length
  · obtain ⟨rfl, htl⟩ := hc
    rw [if_pos ⟨rfl, htl⟩, if_pos ⟨rfl, htl⟩] at step
    have hd : st.drop t = (st[t]?.getD 0) :: st.drop (t + 1) := by
      rw [List.drop_eq_getElem_cons htl, List.getElem?_eq_getElem htl]; rfl
    have hf : fill G [(ci, cj)] (st.drop t) = (s2 G (ci, cj) (st[t]?.getD 0), st.drop (t + 1)) := by
      rw [hd]
      unfold fill
      rw [if_pos hx]
      rfl
    refine ⟨t + 1, _, _, _, _, _, htl, step, ?_, ?_⟩
    · rw [hf]; exact M.set hr
    · rw [hf]
  · rw [if_neg hc, if_neg hc] at step
    have hf : fill G [(ci, cj)] (st.drop t) = (G, st.drop t) := by
      unfold fill
      by_cases h2 : g2 G (ci, cj) = some 2
      · rw [if_pos h2]
        rw [hx] at h2
        cases h2
        have htl : ¬ t < st.length := fun q => hc ⟨rfl, q⟩
        rw [List.drop_of_length_le (by omega)]
        rfl
      · rw [if_neg h2]; rfl
    refine ⟨t, _, _, _, _, _, ht, step, ?_, ?_⟩
    · rw [hf]; exact M
    · rw [hf]
end Mine

namespace Mine
open _root_.PySem _root_.PySem.W

/-- the two cells of a pair, as the code visits them -/
structure ColOk (G : Grid) (mic : Bool) (n : Nat) (inc right vert : Int) (c0 c1 : Cell) : Prop where
  i0 : iOf mic n inc right vert 0 = c0.1
  j0 : right - 0 = c0.2
  i1 : iOf mic n inc right vert 1 = c1.1
  j1 : right - 1 = c1.2

theorem fill_dims : ∀ (cs : List Cell) (G : Grid) (r : List Nat) (c : Cell), (g2 (fill G cs r).1 c).isSome = (g2 G c).isSome
  | [], G, r, c => rfl
  | d :: cs, G, r, c => by
    by_cases h : g2 G d = some 2
    · cases r with
      | nil =>
        have e : fill G (d :: cs) [] = fill G cs [] := by conv => lhs; unfold fill
                                                          rw [if_pos h]
        rw [e]; exact fill_dims cs G [] c
      | cons x r =>
        have e : fill G (d :: cs) (x :: r) = fill (s2 G d x) cs r := by conv => lhs; unfold fill
                                                                        rw [if_pos h]
        rw [e, fill_dims cs _ r c]
        unfold g2 s2
        rw [List.getElem?_modify]
        by_cases h1 : d.1 = c.1
        · simp only [h1, if_true]
          cases e2 : G[c.1]? with
          | none => rfl
          | some row =>
            show ((row.set d.2 x)[c.2]?).isSome = (row[c.2]?).isSome
            by_cases hl : c.2 < row.length
            · rw [List.getElem?_eq_getElem (by rw [List.length_set]; exact hl), List.getElem?_eq_getElem hl]; rfl
            · rw [List.getElem?_eq_none (by rw [List.length_set]; omega), List.getElem?_eq_none (by omega)]
        · simp [h1]
    · have e : fill G (d :: cs) r = fill G cs r := by conv => lhs; unfold fill
                                                      rw [if_neg h]
      rw [e]; exact fill_dims cs G r c
end Mine
namespace Mine
open _root_.PySem _root_.PySem.W
theorem forF_rng {asg : V → Loc → Hp → Option Loc} {it : XF} {body : SF} {loc : Loc} {H H1 : Hp} {k : Nat} {a b c : Int} (h1 : it loc H = some (.ref k, H1)) (h2 : H1[k]? = some (.rng a b c)) (h3 : Builtin.Range.small a b c = true) :
    forF asg it body loc H = rngLoop asg body a c (Builtin.Range.rangeSize a b c).toNat 0 loc H1 := by
  simp only [forF, h1, h2, h3, if_true]
/-- the z loop: two cells -/
theorem z_loop {H0 H : Hp} {mk ck r0 n rt : Nat} {st : List Nat} (A : AC H0 mk ck r0 n st) (hrt : H0[rt]? = some (.rng 0 2 1)) (hro : rt < r0 ∨ r0 + n ≤ rt) {G : Grid} (M : MI H0 H r0 n G) {ver inc right vert : Int} {mic : Bool} {t : Nat} (ht : t ≤ st.length) {e11 e12 e13 e14 e15 : Option V} {c0 c1 : Cell}
    (O : ColOk G mic n inc right vert c0 c1) (h0 : (g2 G c0).isSome = true) (h1 : (g2 G c1).isSome = true) :
    ∃ t' f11 f12 f13 f14 f15 H', t' ≤ st.length ∧ bodyV (acLoc mk ck rt n ver inc mic t st.length (some (.int right)) (some (.int vert)) e11 e12 e13 e14 e15) H =
        some (.next, acLoc mk ck rt n ver inc mic t' st.length (some (.int right)) (some (.int vert)) f11 f12 f13 f14 f15, H') ∧
      MI H0 H' r0 n (fill G [c0, c1] (st.drop t)).1 ∧ (fill G [c0, c1] (st.drop t)).2 = st.drop t' := by
  obtain ⟨x0, hx0⟩ := Option.isSome_iff_exists.mp h0
  obtain ⟨t1, a12, a13, a14, a15, H1, ht1, s1, M1, f1⟩ := cell_MI (rt := rt) A M (ver := ver) (inc := inc) (right := right) (vert := vert) (z := 0) (mic := mic) ht (e12 := e12) (e13 := e13) (e14 := e14) (e15 := e15) (ci := c0.1) (cj := c0.2) O.i0 O.j0 hx0
  have h1' : (g2 (fill G [c0] (st.drop t)).1 c1).isSome = true := by rw [fill_dims]; exact h1
  obtain ⟨x1, hx1⟩ := Option.isSome_iff_exists.mp h1'
  obtain ⟨t2, b12, b13, b14, b15, H2, ht2, s2', M2, f2⟩ := cell_MI (rt := rt) A M1 (ver := ver) (inc := inc) (right := right) (vert := vert) (z := 1) (mic := mic) ht1 (e12 := a12) (e13 := a13) (e14 := a14) (e15 := a15) (ci := c1.1) (cj := c1.2) O.i1 O.j1 hx1
  have hfe : fill G [c0, c1] (st.drop t) = fill (fill G [c0] (st.drop t)).1 [c1] (st.drop t1) := by
    rw [show [c0, c1] = [c0] ++ [c1] from rfl, fill_append, f1]
  refine ⟨t2, some (.int 1), b12, b13, b14, b15, H2, ht2, ?_, by rw [hfe]; exact M2, by rw [hfe]; exact f2⟩
  have hr : H[rt]? = some (.rng 0 2 1) := M.oth _ _ hrt hro
  have hz : rngLoop (nameA 11) bodyZ 0 1 2 0 (acLoc mk ck rt n ver inc mic t st.length (some (.int right)) (some (.int vert)) e11 e12 e13 e14 e15) H =
      some (.next, acLoc mk ck rt n ver inc mic t2 st.length (some (.int right)) (some (.int vert)) (some (.int 1)) b12 b13 b14 b15, H2) := by
    rw [rngLoop]
    show (match bodyZ (acLoc mk ck rt n ver inc mic t st.length (some (.int right)) (some (.int vert)) (some (.int 0)) e12 e13 e14 e15) H with
      | some (.next, loc2, H2) => rngLoop (nameA 11) bodyZ 0 1 1 1 loc2 H2
      | r => r) = _
    rw [s1]
    show rngLoop (nameA 11) bodyZ 0 1 1 1 _ H1 = _
    rw [rngLoop]
    show (match bodyZ (acLoc mk ck rt n ver inc mic t1 st.length (some (.int right)) (some (.int vert)) (some (.int 1)) a12 a13 a14 a15) H1 with
      | some (.next, loc2, H2) => rngLoop (nameA 11) bodyZ 0 1 0 2 loc2 H2
      | r => r) = _
    rw [s2']
    rfl
  unfold bodyV
  refine (consS_of ?_).trans rfl
  exact (forF_rng (H1 := H) rfl hr (by decide)).trans hz
end Mine

namespace Mine
open _root_.PySem _root_.PySem.W

/-! ### the loops over vertical and right -/
theorem rsz_up (n : Nat) : Builtin.Range.rangeSize 0 (n : Int) 1 = n := by
  unfold Builtin.Range.rangeSize
  rw [if_pos (by decide)]
  split <;> omega
theorem fits_long {i : Int} (h1 : -1000000 ≤ i) (h2 : i ≤ 1000000) : Builtin.Range.rangeFitsLong i = true := by
  unfold Builtin.Range.rangeFitsLong
  have a : -(2 ^ 63) ≤ i := by omega
  have b : i < 2 ^ 63 := by omega
  simp only [Bool.and_eq_true, decide_eq_true_eq]
  exact ⟨a, b⟩
theorem small_up {n : Nat} (h : n < 100000) : Builtin.Range.small 0 (n : Int) 1 = true := by
  unfold Builtin.Range.small
  rw [rsz_up, fits_long (by omega) (by omega), fits_long (by omega) (by omega), fits_long (by omega) (by omega), if_pos (by decide), fits_long (by omega) (by omega)]
  simp
theorem rsz_down {n : Nat} (h8 : 8 ≤ n) : Builtin.Range.rangeSize ((n - 1 : Nat) : Int) 0 (-2) = ((n - 1 - 1) / 2 + 1 : Nat) := by
  unfold Builtin.Range.rangeSize
  rw [if_neg (by decide), if_pos (by omega), show -(-2 : Int) = 2 from rfl]
  omega
theorem small_down {n : Nat} (h8 : 8 ≤ n) (h : n < 1000) : Builtin.Range.small ((n - 1 : Nat) : Int) 0 (-2) = true := by
  unfold Builtin.Range.small
  rw [rsz_down h8, fits_long (by omega) (by omega), fits_long (by omega) (by omega), fits_long (by omega) (by omega), fits_long (by omega) (by omega), if_neg (by decide), fits_long (by omega) (by omega)]
  simp
noncomputable def pairCells (mic : Bool) (n : Nat) (inc right : Int) (v : Nat) : List Cell := [((iOf mic n inc right v 0).toNat, (right - 0).toNat), ((iOf mic n inc right v 1).toNat, (right - 1).toNat)]
noncomputable def colCells (mic : Bool) (n : Nat) (inc right : Int) (k : Nat) : List Cell := (List.range k).flatMap (pairCells mic n inc right)
theorem colCells_succ (mic : Bool) (n : Nat) (inc right : Int) (k : Nat) : colCells mic n inc right (k + 1) = colCells mic n inc right k ++ pairCells mic n inc right k := by
  unfold colCells
  rw [List.range_succ, List.flatMap_append]
  simp

/-- n rows of n -/
structure Dims (G : Grid) (n : Nat) : Prop where
  len : G.length = n
  row : ∀ r ∈ G, r.length = n
theorem Dims.some {G : Grid} {n : Nat} (D : Dims G n) {c : Cell} (h1 : c.1 < n) (h2 : c.2 < n) : (g2 G c).isSome = true := by
  unfold g2
  have hl : c.1 < G.length := by rw [D.len]; exact h1
  rw [List.getElem?_eq_getElem hl]
  show ((G[c.1])[c.2]?).isSome = true
  rw [List.getElem?_eq_getElem (by rw [D.row _ (List.getElem_mem hl)]; exact h2)]
  rfl
theorem iOf_range (mic : Bool) {n : Nat} {inc right z : Int} {v : Nat} (h : v < n) : ((iOf mic n inc right v z).toNat : Int) = iOf mic n inc right v z ∧ (iOf mic n inc right v z).toNat < n := by
  unfold iOf
  split <;> omega

/-- one column pair's loop over vertical -/
theorem v_loop {H0 H : Hp} {mk ck r0 n rt : Nat} {st : List Nat} (A : AC H0 mk ck r0 n st) (hrt : H0[rt]? = some (.rng 0 2 1)) (hro : rt < r0 ∨ r0 + n ≤ rt) {G0 G : Grid} (D : Dims G0 n) (M : MI H0 H r0 n G) {done : List Cell}
    {ver inc : Int} {right : Nat} {mic : Bool} {t : Nat} (ht : t ≤ st.length) (hr1 : 1 ≤ right) (hr2 : right < n) {e10 e11 e12 e13 e14 e15 : Option V}
    (hG : (fill G0 done st).1 = G) (hd : (fill G0 done st).2 = st.drop t) :
    ∃ t' f10 f11 f12 f13 f14 f15 H', t' ≤ st.length ∧ rngLoop (nameA 10) bodyV 0 1 n 0 (acLoc mk ck rt n ver inc mic t st.length (some (.int right)) e10 e11 e12 e13 e14 e15) H =
        some (.next, acLoc mk ck rt n ver inc mic t' st.length (some (.int right)) f10 f11 f12 f13 f14 f15, H') ∧
      MI H0 H' r0 n (fill G0 (done ++ colCells mic n inc right n) st).1 ∧ (fill G0 (done ++ colCells mic n inc right n) st).2 = st.drop t' := by
  have key := rngLoop_inv (asg := nameA 10) (body := bodyV) (a := 0) (c := 1) (fun k loc H' => ∃ t' f10 f11 f12 f13 f14 f15, t' ≤ st.length ∧ loc = acLoc mk ck rt n ver inc mic t' st.length (some (.int right)) f10 f11 f12 f13 f14 f15 ∧
      MI H0 H' r0 n (fill G0 (done ++ colCells mic n inc right k) st).1 ∧ (fill G0 (done ++ colCells mic n inc right k) st).2 = st.drop t') n (fun i hi loc H' hI => ?_) n 0 (acLoc mk ck rt n ver inc mic t st.length (some (.int right)) e10 e11 e12 e13 e14 e15) H (by omega) ?_
  · obtain ⟨loc', H', e, t', f10, f11, f12, f13, f14, f15, h1, rfl, h2, h3⟩ := key
    exact ⟨t', f10, f11, f12, f13, f14, f15, H', h1, e, h2, h3⟩
  · obtain ⟨t', f10, f11, f12, f13, f14, f15, ht', rfl, M', h3⟩ := hI
    obtain ⟨r0a, r0b⟩ := iOf_range (z := 0) mic (inc := inc) (right := right) hi
    obtain ⟨r1a, r1b⟩ := iOf_range (z := 1) mic (inc := inc) (right := right) hi
    have O : ColOk (fill G0 (done ++ colCells mic n inc right i) st).1 mic n inc right i ((iOf mic n inc right i 0).toNat, ((right : Int) - 0).toNat) ((iOf mic n inc right i 1).toNat, ((right : Int) - 1).toNat) :=
      ⟨r0a.symm, by omega, r1a.symm, by omega⟩
    obtain ⟨t2, g11, g12, g13, g14, g15, H2, ht2, e, M2, h4⟩ := z_loop (rt := rt) A hrt hro M' (ver := ver) (inc := inc) (right := right) (vert := i) (mic := mic) ht' (e11 := f11) (e12 := f12) (e13 := f13) (e14 := f14) (e15 := f15) O
      (by rw [fill_dims]; exact D.some r0b (by show ((right : Int) - 0).toNat < n; omega)) (by rw [fill_dims]; exact D.some r1b (by show ((right : Int) - 1).toNat < n; omega))
    have hf : fill G0 (done ++ colCells mic n inc right (i + 1)) st = fill (fill G0 (done ++ colCells mic n inc right i) st).1 (pairCells mic n inc right i) (st.drop t') := by
      rw [colCells_succ, ← List.append_assoc, fill_append, h3]
    refine ⟨_, _, H2, rfl, ?_, t2, some (.int i), g11, g12, g13, g14, g15, ht2, rfl, by rw [hf]; exact M2, by rw [hf]; exact h4⟩
    have : ((0 : Int) + (i : Int) * 1) = i := by omega
    rw [this]
    exact e
  · exact ⟨t, e10, e11, e12, e13, e14, e15, ht, rfl, by simpa [colCells, hG] using M, by simpa [colCells] using hd⟩

/-- the column that the code takes at its k-th turn -/
noncomputable def rightOf (mic : Bool) (n k : Nat) : Nat := if !mic && decide (n - 1 - 2 * k ≤ 6) then n - 1 - 2 * k - 1 else n - 1 - 2 * k
noncomputable def allCells (mic : Bool) (n : Nat) (inc : Int) (k : Nat) : List Cell := (List.range k).flatMap fun j => colCells mic n inc (rightOf mic n j) n
theorem allCells_succ (mic : Bool) (n : Nat) (inc : Int) (k : Nat) : allCells mic n inc (k + 1) = allCells mic n inc k ++ colCells mic n inc (rightOf mic n k) n := by
  unfold allCells
  rw [List.range_succ, List.flatMap_append]
  simp
theorem bodyR_run {H : Hp} {mk ck rt n : Nat} {ver inc : Int} {mic : Bool} {t len : Nat} {k : Nat} (hk : 2 * k < n - 1) (hodd : n % 2 = 1) (hn : n < 1000) {e10 e11 e12 e13 e14 e15 : Option V} :
    bodyR (acLoc mk ck rt n ver inc mic t len (some (.int ((n - 1 - 2 * k : Nat) : Int))) e10 e11 e12 e13 e14 e15) H =
      consS (fun loc H => rngLoop (nameA 10) bodyV 0 1 n 0 loc H) nilS (acLoc mk ck rt n ver inc mic t len (some (.int (rightOf mic n k))) e10 e11 e12 e13 e14 e15) (H ++ [.rng 0 n 1]) := by
  have e1 : ifF (andT (notT (boolT (varX 4))) (cmpT .LtE (varX 9) (intX 6))) (consS (augF 9 .Sub (intX 1)) nilS) nilS (acLoc mk ck rt n ver inc mic t len (some (.int ((n - 1 - 2 * k : Nat) : Int))) e10 e11 e12 e13 e14 e15) H =
      some (.next, acLoc mk ck rt n ver inc mic t len (some (.int (rightOf mic n k))) e10 e11 e12 e13 e14 e15, H) := by
    cases mic with
    | true => simp [ifF, andT, notT, boolT, varX, acLoc, nilS, rightOf]
    | false =>
      by_cases h : n - 1 - 2 * k ≤ 6
      · have h' : (((n - 1 - 2 * k : Nat) : Int) ≤ 6) := by omega
        have e : ((n - 1 - 2 * k : Nat) : Int) - 1 = ((n - 1 - 2 * k - 1 : Nat) : Int) := by omega
        simp [ifF, andT, notT, boolT, varX, acLoc, nilS, rightOf, cmpT, cmpV, intX, h, h', consS, augF, augV, e]
      · have h' : ¬ (((n - 1 - 2 * k : Nat) : Int) ≤ 6) := by omega
        simp [ifF, andT, notT, boolT, varX, acLoc, nilS, rightOf, cmpT, cmpV, intX, h, h']
  unfold bodyR
  rw [consS_of e1]
  have e2 : callX (consL (varX 3) nilL) rangeF (acLoc mk ck rt n ver inc mic t len (some (.int (rightOf mic n k))) e10 e11 e12 e13 e14 e15) H = some (.ref H.length, H ++ [.rng 0 n 1]) := by
    simp [callX, consL, varX, acLoc, nilL, rangeF]
  have hs : Builtin.Range.small 0 (n : Int) 1 = true := small_up (by omega)
  have e3 : forF (nameA 10) (callX (consL (varX 3) nilL) rangeF) bodyV (acLoc mk ck rt n ver inc mic t len (some (.int (rightOf mic n k))) e10 e11 e12 e13 e14 e15) H =
      rngLoop (nameA 10) bodyV 0 1 n 0 (acLoc mk ck rt n ver inc mic t len (some (.int (rightOf mic n k))) e10 e11 e12 e13 e14 e15) (H ++ [.rng 0 n 1]) := by
    have := forF_rng (asg := nameA 10) (body := bodyV) e2 (by simp) hs
    rw [this]
    rw [rsz_up]
    rfl
  simp only [consS, e3]
end Mine

namespace Mine
open _root_.PySem _root_.PySem.W

noncomputable def incOf (ver : Int) : Int := if ver = -3 ∨ ver = -1 then 2 else 0
theorem get_app {H : Hp} {k : Nat} {o : O} (h : H[k]? = some o) (T : Hp) : (H ++ T)[k]? = some o := by
  rw [List.getElem?_append_left (List.getElem?_eq_some_iff.mp h).1]; exact h
theorem MI.app {H0 H : Hp} {r0 n : Nat} {G : Grid} (M : MI H0 H r0 n G) (T : Hp) : MI H0 (H ++ T) r0 n G :=
  ⟨M.len, fun i r h => get_app (M.rows i r h) T, M.wide, fun k p h1 h2 => get_app (M.oth k p h1 h2) T⟩
theorem AC.app {H0 : Hp} {mk ck r0 n : Nat} {st : List Nat} (A : AC H0 mk ck r0 n st) (T : Hp) : AC (H0 ++ T) mk ck r0 n st :=
  ⟨get_app A.m T, get_app A.c T, A.mo, A.co, A.lo, A.sm, A.sl, A.bits⟩

theorem r_loop {H0 H : Hp} {mk ck r0 n rt : Nat} {st : List Nat} (A : AC H0 mk ck r0 n st) (hrt : H0[rt]? = some (.rng 0 2 1)) (hro : rt < r0 ∨ r0 + n ≤ rt) {G0 : Grid} (D : Dims G0 n) (M : MI H0 H r0 n G0)
    {ver inc : Int} {mic : Bool} (hodd : n % 2 = 1) (h8 : 8 ≤ n) {e9 e10 e11 e12 e13 e14 e15 : Option V} :
    ∃ t' f9 f10 f11 f12 f13 f14 f15 H', t' ≤ st.length ∧ rngLoop (nameA 9) bodyR ((n - 1 : Nat) : Int) (-2) ((n - 1) / 2) 0 (acLoc mk ck rt n ver inc mic 0 st.length e9 e10 e11 e12 e13 e14 e15) H =
        some (.next, acLoc mk ck rt n ver inc mic t' st.length f9 f10 f11 f12 f13 f14 f15, H') ∧
      MI H0 H' r0 n (fill G0 (allCells mic n inc ((n - 1) / 2)) st).1 ∧ (fill G0 (allCells mic n inc ((n - 1) / 2)) st).2 = st.drop t' := by
  have hn := A.sm
  have key := rngLoop_inv (asg := nameA 9) (body := bodyR) (a := ((n - 1 : Nat) : Int)) (c := -2) (fun k loc H' => ∃ t' f9 f10 f11 f12 f13 f14 f15, t' ≤ st.length ∧ loc = acLoc mk ck rt n ver inc mic t' st.length f9 f10 f11 f12 f13 f14 f15 ∧
      MI H0 H' r0 n (fill G0 (allCells mic n inc k) st).1 ∧ (fill G0 (allCells mic n inc k) st).2 = st.drop t') ((n - 1) / 2) (fun i hi loc H' hI => ?_) ((n - 1) / 2) 0 (acLoc mk ck rt n ver inc mic 0 st.length e9 e10 e11 e12 e13 e14 e15) H (by omega) ?_
  · obtain ⟨loc', H', e, t', f9, f10, f11, f12, f13, f14, f15, h1, rfl, h2, h3⟩ := key
    exact ⟨t', f9, f10, f11, f12, f13, f14, f15, H', h1, e, h2, h3⟩
  · obtain ⟨t', f9, f10, f11, f12, f13, f14, f15, ht', rfl, M', h3⟩ := hI
    have hr1 : 1 ≤ rightOf mic n i := by
      unfold rightOf
      split <;> omega
    have hr2 : rightOf mic n i < n := by
      unfold rightOf
      split <;> omega
    obtain ⟨t2, g10, g11, g12, g13, g14, g15, H2, ht2, e, M2, h4⟩ := v_loop (rt := rt) A hrt hro D (M'.app [.rng 0 n 1]) (done := allCells mic n inc i) (ver := ver) (inc := inc) (right := rightOf mic n i) (mic := mic) ht' hr1 hr2 (e10 := f10) (e11 := f11) (e12 := f12) (e13 := f13) (e14 := f14) (e15 := f15) rfl h3
    have ev : ((n - 1 : Nat) : Int) + (i : Int) * (-2) = ((n - 1 - 2 * i : Nat) : Int) := by omega
    refine ⟨_, _, H2, rfl, ?_, t2, some (.int (rightOf mic n i)), g10, g11, g12, g13, g14, g15, ht2, rfl, by rw [allCells_succ]; exact M2, by rw [allCells_succ]; exact h4⟩
    rw [ev]
    show bodyR (acLoc mk ck rt n ver inc mic t' st.length (some (.int ((n - 1 - 2 * i : Nat) : Int))) f10 f11 f12 f13 f14 f15) H' = _
    rw [bodyR_run (by omega) hodd hn]
    simp only [consS, e, nilS]
  · exact ⟨0, e9, e10, e11, e12, e13, e14, e15, Nat.zero_le _, rfl, by simpa [allCells, fill] using M, by simp [allCells, fill]⟩

/-- add_codewords up to its last test -/
theorem ac_run {H : Hp} {mk ck r0 n : Nat} {st : List Nat} (A : AC H mk ck r0 n st) (hb : r0 + n ≤ H.length) {G : Grid} (D : Dims G n) (M : MI H H r0 n G) {ver : Int} (hodd : n % 2 = 1) (h8 : 8 ≤ n) :
    ∃ loc' H' t, f_ac_pre ([some (.ref mk), some (.ref ck), some (.int ver)] ++ List.replicate 13 none) H = some (.next, loc', H') ∧ loc'[6]? = some (some (.int (t : Nat))) ∧ loc'[1]? = some (some (.ref ck)) ∧ t ≤ st.length ∧
      MI H H' r0 n (fill G (allCells (decide (ver < 1)) n (incOf ver) ((n - 1) / 2)) st).1 ∧ (fill G (allCells (decide (ver < 1)) n (incOf ver) ((n - 1) / 2)) st).2 = st.drop t := by
  have hn := A.sm
  have hsl := A.sl
  have A1 := A.app [.tup [.int (-3), .int (-1)], .rng 0 2 1]
  have hrt : (H ++ [.tup [.int (-3), .int (-1)], .rng 0 2 1])[H.length + 1]? = some (.rng 0 2 1) := by simp
  have M0 : MI (H ++ [.tup [.int (-3), .int (-1)], .rng 0 2 1]) (H ++ [.tup [.int (-3), .int (-1)], .rng 0 2 1] ++ [.rng ((n - 1 : Nat) : Int) 0 (-2)]) r0 n G :=
    ⟨M.len, fun i r h => get_app (get_app (M.rows i r h) _) _, M.wide, fun k p h1 h2 => get_app h1 _⟩
  obtain ⟨t, f9, f10, f11, f12, f13, f14, f15, H', ht, e, M', hd⟩ := r_loop (rt := H.length + 1) A1 hrt (.inr (by omega)) D M0 (ver := ver) (inc := incOf ver) (mic := decide (ver < 1)) hodd h8 (e9 := none) (e10 := none) (e11 := none) (e12 := none) (e13 := none) (e14 := none) (e15 := none)
  refine ⟨acLoc mk ck (H.length + 1) n ver (incOf ver) (decide (ver < 1)) t st.length f9 f10 f11 f12 f13 f14 f15, H', t, ?_, rfl, rfl, ht, ⟨M'.len, M'.rows, M'.wide, fun k p h1 h2 => M'.oth k p (get_app h1 _) h2⟩, hd⟩
  rw [ac_eq]
  have a3 : callX (consL (varX 0) nilL) lenF ([some (.ref mk), some (.ref ck), some (.int ver)] ++ List.replicate 13 none) H = some (.int n, H) := by
    simp [callX, consL, varX, nilL, lenF, A.m, rowRefs]; omega
  rw [consS_assign a3]
  rw [consS_assign (v := .bool (decide (ver < 1))) (H1 := H) (by simp [cmpX, varX, intX, cmpV])]
  have a5 : ∀ loc : Loc, loc[2]? = some (some (.int ver)) → iteX (cmpT .NotIn (varX 2) (tupX (consL (intX (-3)) (consL (intX (-1)) nilL)))) (intX 0) (intX 2) loc H = some (.int (incOf ver), H ++ [.tup [.int (-3), .int (-1)]]) := by
    intro loc hl
    unfold incOf
    by_cases h1 : ver = -3
    · subst h1; simp [iteX, cmpT, varX, hl, tupX, consL, intX, nilL, cmpV, intsOf]
    · by_cases h2 : ver = -1
      · subst h2; simp [iteX, cmpT, varX, hl, tupX, consL, intX, nilL, cmpV, intsOf]
      · simp [iteX, cmpT, varX, hl, tupX, consL, intX, nilL, cmpV, intsOf, h1, h2]
        have e1 : ((-3 : Int) == ver) = false := beq_eq_false_iff_ne.mpr fun q => h1 q.symm
        have e2 : ((-1 : Int) == ver) = false := beq_eq_false_iff_ne.mpr fun q => h2 q.symm
        rw [e1, e2]
        rfl
  rw [consS_assign (a5 _ rfl)]
  rw [consS_assign (v := .int 0) (H1 := H ++ [.tup [.int (-3), .int (-1)]]) rfl]
  have a7 : ∀ loc : Loc, loc[1]? = some (some (.ref ck)) → callX (consL (varX 1) nilL) lenF loc (H ++ [.tup [.int (-3), .int (-1)]]) = some (.int st.length, H ++ [.tup [.int (-3), .int (-1)]]) := by
    intro loc hl
    simp [callX, consL, varX, nilL, lenF, hl, get_app A.c, bitsV]; omega
  rw [consS_assign (a7 _ rfl)]
  have a8 : ∀ loc : Loc, callX (consL (intX 2) nilL) rangeF loc (H ++ [.tup [.int (-3), .int (-1)]]) = some (.ref (H.length + 1), H ++ [.tup [.int (-3), .int (-1)], .rng 0 2 1]) := by
    intro loc
    simp [callX, consL, intX, nilL, rangeF]
  rw [consS_assign (a8 _)]
  show consS (forF (nameA 9) (callX (consL (binX .Sub (varX 3) (intX 1)) (consL (intX 0) (consL (negX (intX 2)) nilL))) rangeF) bodyR) nilS (acLoc mk ck (H.length + 1) n ver (incOf ver) (decide (ver < 1)) 0 st.length none none none none none none none) _ = _
  have a9 : callX (consL (binX .Sub (varX 3) (intX 1)) (consL (intX 0) (consL (negX (intX 2)) nilL))) rangeF (acLoc mk ck (H.length + 1) n ver (incOf ver) (decide (ver < 1)) 0 st.length none none none none none none none) (H ++ [.tup [.int (-3), .int (-1)], .rng 0 2 1]) =
      some (.ref (H.length + 2), H ++ [.tup [.int (-3), .int (-1)], .rng 0 2 1] ++ [.rng ((n - 1 : Nat) : Int) 0 (-2)]) := by
    have e1 : ((n : Int) - 1) = ((n - 1 : Nat) : Int) := by omega
    simp [callX, consL, intX, nilL, rangeF, binX, varX, acLoc, binV, negX, e1]
  have hs : Builtin.Range.small ((n - 1 : Nat) : Int) 0 (-2) = true := small_down h8 hn
  have hz : (Builtin.Range.rangeSize ((n - 1 : Nat) : Int) 0 (-2)).toNat = (n - 1) / 2 := by
    rw [rsz_down h8]
    omega
  refine (consS_of (loc1 := _) (H1 := H') ?_).trans rfl
  rw [forF_rng a9 (by simp) hs, hz]
  exact e
end Mine

namespace Mine
open _root_.PySem _root_.PySem.W

/-! ### the law's spots -/
noncomputable def spBody7 : SF := consS (ifF (cmpT .Eq (idxX (idxX (varX 0) (varX 6)) (varX 7)) (intX 2)) (consS (appF 12 (varX 2) (tupX (consL (varX 6) (consL (varX 7) nilL)))) nilS) nilS) nilS
noncomputable def spBody5 : SF := consS (assignF 6 (iteX (boolT (varX 3)) (binX .Sub (binX .Sub (varX 1) (intX 1)) (varX 5)) (varX 5))) (consS (forF (nameA 7) (lstX (consL (varX 4) (consL (binX .Sub (varX 4) (intX 1)) nilL))) spBody7) nilS)
noncomputable def spBodyW : SF := consS (ifF (andT (cmpT .Gt (varX 1) (intX 20)) (cmpT .Eq (varX 4) (intX 6))) (consS (assignF 4 (intX 5)) nilS) nilS) (consS (forF (nameA 5) (callX (consL (varX 1) nilL) rangeF) spBody5) (consS (assignF 3 (notX (varX 3))) (consS (augF 4 .Sub (intX 2)) nilS)))
theorem spots_eq : f_law_spots = consS (assignF 2 (lstX nilL)) (consS (assignF 3 (boolX true)) (consS (assignF 4 (binX .Sub (varX 1) (intX 1))) (consS (whileF 30 (cmpT .Gt (varX 4) (intX 0)) spBodyW) (consS (retF (varX 2)) nilS)))) := rfl

/-- the picture in a heap -/
structure Pic (H : Hp) (pk r0 n : Nat) (G : Grid) : Prop where
  pic : H[pk]? = some (.list ((List.range n).map fun j => .ref (r0 + 2 * j)))
  rows : ∀ (i : Nat) row, G[i]? = some row → H[r0 + 2 * i]? = some (.list (bitsV row))
  dims : Dims G n
  sm : n < 100
abbrev SpSt := List V × Hp
noncomputable def SH (H : Hp) (st : SpSt) : Hp := H ++ .list st.1 :: st.2
noncomputable def spCell (b : Nat) (G : Grid) (st : SpSt) (c : Cell) : SpSt := if g2 G c = some 2 then (st.1 ++ [.ref (b + 1 + st.2.length)], st.2 ++ [.tup [.int (c.1 : Int), .int (c.2 : Int)]]) else st
noncomputable def spPair (b : Nat) (G : Grid) (i right : Nat) (st : SpSt) : SpSt := spCell b G (spCell b G (st.1, st.2 ++ [.list [.int (right : Int), .int ((right - 1 : Nat) : Int)]]) (i, right)) (i, right - 1)
noncomputable def spUp (n : Nat) (up : Bool) (step : Nat) : Nat := if up then n - 1 - step else step
noncomputable def spSteps (b : Nat) (G : Grid) (n : Nat) (up : Bool) (right : Nat) (st : SpSt) : Nat → SpSt
  | 0 => st
  | k + 1 => spPair b G (spUp n up k) right (spSteps b G n up right st k)
noncomputable def spCol (b : Nat) (G : Grid) (n : Nat) (up : Bool) (right : Nat) (st : SpSt) : SpSt := spSteps b G n up right (st.1, st.2 ++ [.rng 0 (n : Int) 1]) n
noncomputable def spLoc (pk n b : Nat) (up : Bool) (right : Int) (e5 e6 e7 : Option V) : Loc := [some (.ref pk), some (.int n), some (.ref b), some (.bool up), some (.int right), e5, e6, e7]

theorem SH_len (H : Hp) (st : SpSt) : (SH H st).length = H.length + 1 + st.2.length := by simp [SH]; omega
theorem SH_old {H : Hp} {st : SpSt} {k : Nat} {o : O} (h : H[k]? = some o) : (SH H st)[k]? = some o := get_app h _
theorem SH_at (H : Hp) (st : SpSt) : (SH H st)[H.length]? = some (.list st.1) := by simp [SH]
theorem SH_push (H : Hp) (st : SpSt) (o : O) : SH H st ++ [o] = SH H (st.1, st.2 ++ [o]) := by simp [SH]
theorem SH_set (H : Hp) (st : SpSt) (l : List V) : (SH H st).set H.length (.list l) = SH H (l, st.2) := by
  unfold SH
  rw [List.set_append_right _ _ (Nat.le_refl _)]
  simp
theorem SH_new (H : Hp) (st : SpSt) {k : Nat} {o : O} (h : st.2[k]? = some o) : (SH H st)[H.length + 1 + k]? = some o := by
  unfold SH
  rw [List.getElem?_append_right (by omega), show H.length + 1 + k - H.length = k + 1 by omega]
  simpa using h
theorem spCell_len (b : Nat) (G : Grid) (st : SpSt) (c : Cell) : (spCell b G st c).1.length ≤ st.1.length + 1 := by
  unfold spCell
  split <;> simp
theorem spCell_tl (b : Nat) (G : Grid) (st : SpSt) (c : Cell) {k : Nat} {o : O} (h : st.2[k]? = some o) : (spCell b G st c).2[k]? = some o := by
  unfold spCell
  split
  · exact get_app h _
  · exact h
theorem idx_pic {H : Hp} {pk r0 n : Nat} {G : Grid} (P : Pic H pk r0 n G) {st : SpSt} {i : Nat} (hi : i < n) : idxV (.ref pk) (.int (i : Int)) (SH H st) = some (.ref (r0 + 2 * i)) := by
  have := P.sm
  unfold idxV
  dsimp only
  rw [if_pos (by omega), SH_old P.pic]
  dsimp only
  rw [show ((List.range n).map fun j => V.ref (r0 + 2 * j)).length = n by simp, seqIndex_nat hi]
  simp [hi]
theorem idx_row {H : Hp} {pk r0 n : Nat} {G : Grid} (P : Pic H pk r0 n G) {st : SpSt} {i j : Nat} {x : Nat} (hx : g2 G (i, j) = some x) : idxV (.ref (r0 + 2 * i)) (.int (j : Int)) (SH H st) = some (.int (x : Int)) := by
  obtain ⟨row, hr, hx⟩ := Option.bind_eq_some_iff.mp hx
  have hj : j < row.length := (List.getElem?_eq_some_iff.mp hx).1
  have hl := P.dims.row row (List.mem_of_getElem? hr)
  have := P.sm
  unfold idxV
  dsimp only
  rw [if_pos (by omega), SH_old (P.rows i row hr)]
  dsimp only
  rw [show (bitsV row).length = row.length by simp [bitsV], seqIndex_nat hj]
  have hx : row[j]? = some x := hx
  simp [bitsV, hx]
theorem cmp2 {f : XF} {loc : Loc} {H : Hp} {x : Nat} (h : f loc H = some (.int (x : Int), H)) : cmpT .Eq f (intX 2) loc H = some (decide (x = 2), H) := by
  simp only [cmpT, h, intX, cmpV]
  by_cases hx : x = 2
  · subst hx; rfl
  · have : ((x : Int) == 2) = false := by rw [beq_eq_false_iff_ne]; omega
    rw [this]
    simp [hx]
theorem sp_cell {H : Hp} {pk r0 n : Nat} {G : Grid} (P : Pic H pk r0 n G) (hb : 12 ≤ H.length) {st : SpSt} (hs : st.1.length < 1000000) {i j : Nat} (hi : i < n) (hj : j < n) {up : Bool} {right : Int} {e5 : Option V} :
    spBody7 (spLoc pk n H.length up right e5 (some (.int (i : Int))) (some (.int (j : Int)))) (SH H st) = some (.next, spLoc pk n H.length up right e5 (some (.int (i : Int))) (some (.int (j : Int))), SH H (spCell H.length G st (i, j))) := by
  obtain ⟨x, hx⟩ := Option.isSome_iff_exists.mp (P.dims.some (c := (i, j)) hi hj)
  have e1 : idxX (idxX (varX 0) (varX 6)) (varX 7) (spLoc pk n H.length up right e5 (some (.int (i : Int))) (some (.int (j : Int)))) (SH H st) = some (.int (x : Int), SH H st) :=
    idxX_of' (H1 := SH H st) (a := .ref (r0 + 2 * i)) (i := .int (j : Int)) (idxX_of' (H1 := SH H st) (a := .ref pk) (i := .int (i : Int)) rfl rfl (idx_pic P hi)) rfl (idx_row P hx)
  unfold spBody7
  rw [cond_run (cmp2 e1)]
  unfold spCell
  by_cases h2 : x = 2
  · subst h2
    rw [if_pos rfl, if_pos hx]
    have e2 : appF 12 (varX 2) (tupX (consL (varX 6) (consL (varX 7) nilL))) (spLoc pk n H.length up right e5 (some (.int (i : Int))) (some (.int (j : Int)))) (SH H st) =
        some (.next, spLoc pk n H.length up right e5 (some (.int (i : Int))) (some (.int (j : Int))), SH H (st.1 ++ [.ref (H.length + 1 + st.2.length)], st.2 ++ [.tup [.int (i : Int), .int (j : Int)]])) := by
      have a1 : varX 2 (spLoc pk n H.length up right e5 (some (.int (i : Int))) (some (.int (j : Int)))) (SH H st) = some (.ref H.length, SH H st) := rfl
      have a2 : tupX (consL (varX 6) (consL (varX 7) nilL)) (spLoc pk n H.length up right e5 (some (.int (i : Int))) (some (.int (j : Int)))) (SH H st) =
          some (.ref (H.length + 1 + st.2.length), SH H (st.1, st.2 ++ [.tup [.int (i : Int), .int (j : Int)]])) := by
        have : consL (varX 6) (consL (varX 7) nilL) (spLoc pk n H.length up right e5 (some (.int (i : Int))) (some (.int (j : Int)))) (SH H st) = some ([.int (i : Int), .int (j : Int)], SH H st) := rfl
        simp only [tupX, this, SH_len, SH_push]
        simp
      have a3 : isLst (SH H st) H.length = true := by unfold isLst; rw [SH_at]
      simp only [appF, a1, a2, a3, if_true, SH_at]
      rw [if_pos ⟨hb, hs⟩, SH_set]
    refine (consS_of ?_).trans rfl
    rw [consS_of e2]
    rfl
  · rw [if_neg h2, if_neg (fun q => h2 (by rw [hx] at q; injection q))]
end Mine

namespace Mine
open _root_.PySem _root_.PySem.W

theorem sp_i {pk n b : Nat} {up : Bool} {right : Int} {k : Nat} {e6 e7 : Option V} {H : Hp} (hk : k < n) :
    iteX (boolT (varX 3)) (binX .Sub (binX .Sub (varX 1) (intX 1)) (varX 5)) (varX 5) (spLoc pk n b up right (some (.int (k : Int))) e6 e7) H = some (.int ((spUp n up k : Nat) : Int), H) := by
  cases up with
  | false =>
    rw [iteX_f (H1 := H) rfl]
    rfl
  | true =>
    rw [iteX_t (H1 := H) rfl]
    have : ((n : Int) - 1 - k) = ((n - 1 - k : Nat) : Int) := by omega
    show some (V.int ((n : Int) - 1 - k), H) = _
    rw [this]
    rfl
theorem seqLoop_two {asg : V → Loc → Hp → Option Loc} {body : SF} {k : Nat} {a b : V} {loc l1 l2 l3 l4 : Loc} {H H1 H2 : Hp} (h0 : H[k]? = some (.list [a, b])) (h1 : asg a loc H = some l1) (h2 : body l1 H = some (.next, l2, H1)) (h3 : H1[k]? = some (.list [a, b]))
    (h4 : asg b l2 H1 = some l3) (h5 : body l3 H1 = some (.next, l4, H2)) (h6 : H2[k]? = some (.list [a, b])) : seqLoop asg body k true 2 0 loc H = some (.next, l4, H2) := by
  have i0 : itemsAt H k = some (true, [a, b]) := by unfold itemsAt; rw [h0]
  have i1 : itemsAt H1 k = some (true, [a, b]) := by unfold itemsAt; rw [h3]
  have i2 : itemsAt H2 k = some (true, [a, b]) := by unfold itemsAt; rw [h6]
  unfold seqLoop
  simp [i0, h1, h2]
  unfold seqLoop
  simp [i1, h4, h5]
  unfold seqLoop
  simp [i2]
theorem sp_pair {H : Hp} {pk r0 n : Nat} {G : Grid} (P : Pic H pk r0 n G) (hb : 12 ≤ H.length) {st : SpSt} (hs : st.1.length < 999000) {k right : Nat} (hk : k < n) (h1 : 1 ≤ right) (hr : right < n) {up : Bool} {e6 e7 : Option V} :
    spBody5 (spLoc pk n H.length up right (some (.int (k : Int))) e6 e7) (SH H st) =
      some (.next, spLoc pk n H.length up right (some (.int (k : Int))) (some (.int ((spUp n up k : Nat) : Int))) (some (.int ((right - 1 : Nat) : Int))), SH H (spPair H.length G (spUp n up k) right st)) := by
  have hi : spUp n up k < n := by
    unfold spUp
    split <;> omega
  unfold spBody5
  rw [consS_assign (sp_i hk)]
  show consS (forF (nameA 7) (lstX (consL (varX 4) (consL (binX .Sub (varX 4) (intX 1)) nilL))) spBody7) nilS (spLoc pk n H.length up right (some (.int (k : Int))) (some (.int ((spUp n up k : Nat) : Int))) e7) (SH H st) = _
  have er : ((right : Int) - 1) = ((right - 1 : Nat) : Int) := by omega
  have e1 : lstX (consL (varX 4) (consL (binX .Sub (varX 4) (intX 1)) nilL)) (spLoc pk n H.length up right (some (.int (k : Int))) (some (.int ((spUp n up k : Nat) : Int))) e7) (SH H st) =
      some (.ref (H.length + 1 + st.2.length), SH H (st.1, st.2 ++ [.list [.int (right : Int), .int ((right - 1 : Nat) : Int)]])) := by
    have : consL (varX 4) (consL (binX .Sub (varX 4) (intX 1)) nilL) (spLoc pk n H.length up right (some (.int (k : Int))) (some (.int ((spUp n up k : Nat) : Int))) e7) (SH H st) = some ([.int (right : Int), .int ((right : Int) - 1)], SH H st) := rfl
    simp only [lstX, this, SH_len, SH_push, er]
    simp
  have hat : (SH H (st.1, st.2 ++ [.list [.int (right : Int), .int ((right - 1 : Nat) : Int)]]))[H.length + 1 + st.2.length]? = some (.list [.int (right : Int), .int ((right - 1 : Nat) : Int)]) := SH_new _ _ (by simp)
  refine (consS_of ?_).trans rfl
  simp only [forF, e1, hat]
  have c1 := sp_cell P hb (st := (st.1, st.2 ++ [.list [.int (right : Int), .int ((right - 1 : Nat) : Int)]])) (by show st.1.length < _; omega) hi hr (up := up) (right := right) (e5 := some (.int (k : Int)))
  have l1 := spCell_len H.length G (st.1, st.2 ++ [.list [.int (right : Int), .int ((right - 1 : Nat) : Int)]]) (spUp n up k, right)
  have c2 := sp_cell P hb (st := spCell H.length G (st.1, st.2 ++ [.list [.int (right : Int), .int ((right - 1 : Nat) : Int)]]) (spUp n up k, right)) (by
    have l1 : _ ≤ st.1.length + 1 := l1
    omega) hi (show right - 1 < n by omega) (up := up) (right := right) (e5 := some (.int (k : Int)))
  refine seqLoop_two (l1 := spLoc pk n H.length up right (some (.int (k : Int))) (some (.int ((spUp n up k : Nat) : Int))) (some (.int (right : Int)))) hat rfl c1 (SH_new _ _ (spCell_tl _ _ _ _ (by simp))) rfl c2 (SH_new _ _ (spCell_tl _ _ _ _ (spCell_tl _ _ _ _ (by simp))))

theorem spPair_len (b : Nat) (G : Grid) (i right : Nat) (st : SpSt) : (spPair b G i right st).1.length ≤ st.1.length + 2 := by
  unfold spPair
  have h1 := spCell_len b G (st.1, st.2 ++ [.list [.int (right : Int), .int ((right - 1 : Nat) : Int)]]) (i, right)
  have h2 := spCell_len b G (spCell b G (st.1, st.2 ++ [.list [.int (right : Int), .int ((right - 1 : Nat) : Int)]]) (i, right)) (i, right - 1)
  have h1 : _ ≤ st.1.length + 1 := h1
  omega
theorem spSteps_len (b : Nat) (G : Grid) (n : Nat) (up : Bool) (right : Nat) (st : SpSt) : ∀ k, (spSteps b G n up right st k).1.length ≤ st.1.length + 2 * k
  | 0 => Nat.le_refl _
  | k + 1 => by
    have := spSteps_len b G n up right st k
    have h := spPair_len b G (spUp n up k) right (spSteps b G n up right st k)
    show (spPair b G (spUp n up k) right (spSteps b G n up right st k)).1.length ≤ _
    omega
theorem sp_steps {H : Hp} {pk r0 n : Nat} {G : Grid} (P : Pic H pk r0 n G) (hb : 12 ≤ H.length) {st : SpSt} (hs : st.1.length < 998000) {right : Nat} (h1 : 1 ≤ right) (hr : right < n) {up : Bool} {e5 e6 e7 : Option V} :
    ∃ f5 f6 f7, rngLoop (nameA 5) spBody5 0 1 n 0 (spLoc pk n H.length up right e5 e6 e7) (SH H st) = some (.next, spLoc pk n H.length up right f5 f6 f7, SH H (spSteps H.length G n up right st n)) := by
  have hn := P.sm
  obtain ⟨loc', H', e, f5, f6, f7, rfl, rfl⟩ := rngLoop_inv (asg := nameA 5) (body := spBody5) (a := 0) (c := 1) (fun k loc H' => ∃ f5 f6 f7, loc = spLoc pk n H.length up right f5 f6 f7 ∧ H' = SH H (spSteps H.length G n up right st k)) n (fun i hi loc H' hI => by
    obtain ⟨f5, f6, f7, rfl, rfl⟩ := hI
    have := spSteps_len H.length G n up right st i
    have e := sp_pair P hb (st := spSteps H.length G n up right st i) (by omega) hi h1 hr (up := up) (e6 := f6) (e7 := f7)
    refine ⟨spLoc pk n H.length up right (some (.int (i : Int))) f6 f7, _, _, ?_, e, _, _, _, rfl, rfl⟩
    have : ((0 : Int) + (i : Int) * 1) = i := by omega
    rw [this]
    rfl) n 0 (spLoc pk n H.length up right e5 e6 e7) (SH H st) (by omega) ⟨e5, e6, e7, rfl, rfl⟩
  exact ⟨f5, f6, f7, e⟩

/-- the while loop, in plain Lean -/
noncomputable def spWhile (b : Nat) (G : Grid) (n : Nat) : Nat → Bool → Int → SpSt → Option SpSt
  | 0, _, _, _ => none
  | f + 1, up, right, st => if 0 < right then spWhile b G n f (!up) ((if 20 < n ∧ right = 6 then 5 else right) - 2) (spCol b G n up (if 20 < n ∧ right = 6 then 5 else right).toNat st) else some st
theorem sp_bodyW {H : Hp} {pk r0 n : Nat} {G : Grid} (P : Pic H pk r0 n G) (hb : 12 ≤ H.length) {st : SpSt} (hs : st.1.length < 998000) {right : Int} (h1 : 0 < right) (hr : right < n) {up : Bool} {e5 e6 e7 : Option V} :
    ∃ f5 f6 f7, spBodyW (spLoc pk n H.length up right e5 e6 e7) (SH H st) = some (.next, spLoc pk n H.length (!up) ((if 20 < n ∧ right = 6 then 5 else right) - 2) f5 f6 f7, SH H (spCol H.length G n up (if 20 < n ∧ right = 6 then 5 else right).toNat st)) := by
  have hn := P.sm
  have e1 : ifF (andT (cmpT .Gt (varX 1) (intX 20)) (cmpT .Eq (varX 4) (intX 6))) (consS (assignF 4 (intX 5)) nilS) nilS (spLoc pk n H.length up right e5 e6 e7) (SH H st) =
      some (.next, spLoc pk n H.length up (if 20 < n ∧ right = 6 then 5 else right) e5 e6 e7, SH H st) := by
    by_cases h20 : 20 < n
    · have h20' : (20 : Int) < n := by omega
      by_cases h6 : right = 6
      · subst h6
        simp [ifF, andT, cmpT, varX, spLoc, intX, cmpV, h20, h20', consS, assignF, nilS]
      · have : (right == 6) = false := by rw [beq_eq_false_iff_ne]; exact h6
        simp [ifF, andT, cmpT, varX, spLoc, intX, cmpV, h20, h20', consS, assignF, nilS, h6]
        rw [this]
    · have h20' : ¬ ((20 : Int) < n) := by omega
      simp [ifF, andT, cmpT, varX, spLoc, intX, cmpV, h20, h20', nilS]
  generalize hq : (if 20 < n ∧ right = 6 then (5 : Int) else right) = q at *
  have hq1 : 0 < q ∧ q < n := by
    subst hq
    split <;> omega
  obtain ⟨q', rfl⟩ := Int.eq_ofNat_of_zero_le (Int.le_of_lt hq1.1)
  have hst := sp_steps P hb (st := (st.1, st.2 ++ [.rng 0 (n : Int) 1])) hs (right := q') (by omega) (by omega) (up := up) (e5 := e5) (e6 := e6) (e7 := e7)
  obtain ⟨f5, f6, f7, e2⟩ := hst
  refine ⟨f5, f6, f7, ?_⟩
  unfold spBodyW
  rw [consS_of e1]
  have e3 : callX (consL (varX 1) nilL) rangeF (spLoc pk n H.length up q' e5 e6 e7) (SH H st) = some (.ref (H.length + 1 + st.2.length), SH H (st.1, st.2 ++ [.rng 0 (n : Int) 1])) := by
    have : callX (consL (varX 1) nilL) rangeF (spLoc pk n H.length up q' e5 e6 e7) (SH H st) = some (.ref (SH H st).length, SH H st ++ [.rng 0 n 1]) := rfl
    rw [this, SH_len, SH_push]
  have e4 : forF (nameA 5) (callX (consL (varX 1) nilL) rangeF) spBody5 (spLoc pk n H.length up q' e5 e6 e7) (SH H st) = some (.next, spLoc pk n H.length up q' f5 f6 f7, SH H (spSteps H.length G n up q' (st.1, st.2 ++ [.rng 0 (n : Int) 1]) n)) := by
    rw [forF_rng e3 (SH_new _ _ (by simp)) (small_up (n := n) (by omega)), rsz_up]
    exact e2
  rw [consS_of e4]
  rfl
theorem spCol_len (b : Nat) (G : Grid) (n : Nat) (up : Bool) (right : Nat) (st : SpSt) : (spCol b G n up right st).1.length ≤ st.1.length + 2 * n := spSteps_len _ _ _ _ _ _ _
theorem sp_while {H : Hp} {pk r0 n : Nat} {G : Grid} (P : Pic H pk r0 n G) (hb : 12 ≤ H.length) : ∀ (f : Nat) {st st' : SpSt} {right : Int} {up : Bool} {e5 e6 e7 : Option V}, st.1.length + f * 200 < 998000 → right < n → spWhile H.length G n f up right st = some st' →
    ∃ loc', whileLoopF (cmpT .Gt (varX 4) (intX 0)) spBodyW f (spLoc pk n H.length up right e5 e6 e7) (SH H st) = some (.next, loc', SH H st') ∧ loc'[2]? = some (some (.ref H.length))
  | 0, st, st', right, up, e5, e6, e7, _, _, h => by cases h
  | f + 1, st, st', right, up, e5, e6, e7, hs, hr, h => by
    have hn := P.sm
    unfold spWhile at h
    have ec : cmpT .Gt (varX 4) (intX 0) (spLoc pk n H.length up right e5 e6 e7) (SH H st) = some (decide (0 < right), SH H st) := by
      simp [cmpT, varX, spLoc, intX, cmpV]
    by_cases h0 : 0 < right
    · rw [if_pos h0] at h
      obtain ⟨f5, f6, f7, e⟩ := sp_bodyW P hb (st := st) (by omega) h0 hr (up := up) (e5 := e5) (e6 := e6) (e7 := e7)
      have hl := spCol_len H.length G n up (if 20 < n ∧ right = 6 then (5 : Int) else right).toNat st
      obtain ⟨loc', e', e2⟩ := sp_while P hb f (e5 := f5) (e6 := f6) (e7 := f7) (by omega) (by split <;> omega) h
      refine ⟨loc', ?_, e2⟩
      unfold whileLoopF
      simp only [ec, h0, decide_true, e]
      exact e'
    · rw [if_neg h0] at h
      cases h
      refine ⟨spLoc pk n H.length up right e5 e6 e7, ?_, rfl⟩
      unfold whileLoopF
      simp only [ec, h0, decide_false]
theorem spots_run {H : Hp} {pk r0 n : Nat} {G : Grid} (P : Pic H pk r0 n G) (hb : 12 ≤ H.length) {st' : SpSt} (h : spWhile H.length G n 30 true ((n : Int) - 1) ([], []) = some st') :
    F_law_spots [.ref pk, .int (n : Int)] H = some (.ref H.length, SH H st') := by
  obtain ⟨loc', e, e2⟩ := sp_while P hb 30 (e5 := none) (e6 := none) (e7 := none) (by simp) (by omega) h
  have key : f_law_spots ([some (.ref pk), some (.int (n : Int))] ++ List.replicate 6 none) H = some (.ret (.ref H.length), loc', SH H st') := by
    rw [spots_eq]
    rw [consS_assign (v := .ref H.length) (H1 := H ++ [.list []]) (by simp [lstX, nilL])]
    rw [consS_assign (v := .bool true) (H1 := H ++ [.list []]) rfl]
    rw [consS_assign (v := .int ((n : Int) - 1)) (H1 := H ++ [.list []]) rfl]
    have e1 : whileF 30 (cmpT .Gt (varX 4) (intX 0)) spBodyW (spLoc pk n H.length true ((n : Int) - 1) none none none) (SH H ([], [])) = some (.next, loc', SH H st') := e
    show consS (whileF 30 (cmpT .Gt (varX 4) (intX 0)) spBodyW) _ (spLoc pk n H.length true ((n : Int) - 1) none none none) (SH H ([], [])) = _
    rw [consS_of e1]
    simp [consS, retF, varX, e2]
  unfold F_law_spots fnF
  show (match f_law_spots ([some (V.ref pk), some (V.int (n : Int))] ++ List.replicate 6 none) H with
    | some (.ret v, _, H') => some (v, H')
    | some (.next, _, H') => some (V.none, H')
    | none => none) = _
  rw [key]
end Mine

namespace Mine
open _root_.PySem _root_.PySem.W

/-! ### the law's numbers and its stream -/
noncomputable def A11 : Hp := .tab :: patRows.map (fun r => .tup (r.map .int)) ++ [.tup ((List.range 9).map fun i => .ref (i + 1))]
noncomputable def sizesT : Hp := [.tup [.int (-3), .int 11], .tup [.int (-2), .int 13], .tup [.int (-1), .int 15], .tup [.int 0, .int 17], .tup [.int 1, .int 21], .list (rowRefs 13 5)]
noncomputable def H2 (l n : List V) (T : Hp) : Hp := A11 ++ .list l :: .list n :: T
noncomputable def H4 (l n : List V) (T : Hp) (o : O) (st : List V) (U : Hp) : Hp := H2 l n (T ++ o :: .list st :: U)
theorem A11_len : A11.length = 11 := by decide
theorem H2_len (l n : List V) (T : Hp) : (H2 l n T).length = 13 + T.length := by
  simp [H2, A11_len]; omega
theorem H2_app (l n : List V) (T U : Hp) : H2 l n T ++ U = H2 l n (T ++ U) := by simp [H2]
theorem H2_at {l n : List V} {T : Hp} {k : Nat} {o : O} (h : T[k]? = some o) : (H2 l n T)[13 + k]? = some o := by
  unfold H2
  rw [List.getElem?_append_right (by rw [A11_len]; omega), A11_len, show 13 + k - 11 = k + 2 by omega]
  simpa using h
theorem H2_11 (l n : List V) (T : Hp) : (H2 l n T)[11]? = some (.list l) := by
  unfold H2
  rw [List.getElem?_append_right (by rw [A11_len]; omega), A11_len]
  rfl
theorem H2_12 (l n : List V) (T : Hp) : (H2 l n T)[12]? = some (.list n) := by
  unfold H2
  rw [List.getElem?_append_right (by rw [A11_len]; omega), A11_len]
  rfl
theorem H2_0 (l n : List V) (T : Hp) : (H2 l n T)[0]? = some .tab := rfl

noncomputable def nums (xs : List Int) : List Int := if xs = [] then [0] else xs.take 30
theorem nums_len {xs : List Int} : 1 ≤ (nums xs).length ∧ (nums xs).length ≤ 30 := by
  unfold nums
  cases xs with
  | nil => simp
  | cons a r => simp; omega
noncomputable def intsV (xs : List Int) : List V := xs.map .int

theorem step0 {xs : List Int} (hx : xs.length ≤ 63) :
    iteX (cmpT .Gt (callX (consL (varX 0) nilL) lenF) (intX 0)) (takeX (varX 0) (intX 30)) (lstX (consL (intX 0) nilL)) locS (Hp0 xs) = some (.ref 12, H2 (intsV xs) (intsV (nums xs)) []) := by
  have h11 : (Hp0 xs)[11]? = some (.list (intsV xs)) := rfl
  have hl : (Hp0 xs).length = 12 := by simp [Hp0, patRows]
  have e0 : callX (consL (varX 0) nilL) lenF locS (Hp0 xs) = some (.int xs.length, Hp0 xs) := by
    have : consL (varX 0) nilL locS (Hp0 xs) = some ([.ref 11], Hp0 xs) := rfl
    simp only [callX, this, lenF, h11]
    rw [if_pos (by simp [intsV]; omega)]
    simp [intsV]
  cases xs with
  | nil =>
    rw [iteX_f (H1 := Hp0 []) (by simp only [cmpT, e0]; rfl)]
    rfl
  | cons a r =>
    have ec : cmpT .Gt (callX (consL (varX 0) nilL) lenF) (intX 0) locS (Hp0 (a :: r)) = some (true, Hp0 (a :: r)) := by
      simp only [cmpT, e0, intX, cmpV]
      simp
    rw [iteX_t ec]
    have e1 : varX 0 locS (Hp0 (a :: r)) = some (.ref 11, Hp0 (a :: r)) := rfl
    simp only [takeX, e1, intX, h11]
    rw [if_pos ⟨by omega, by simp [intsV] at *; omega⟩, hl]
    have : intsV (nums (a :: r)) = (intsV (a :: r)).take 30 := by simp [intsV, nums, List.map_take]
    rw [this]
    simp [H2, Hp0, A11, intsV]

/-- the elements of the stream -/
noncomputable def eltF : XF := binX .Mod (binX .Add (binX .FloorDiv (idxX (varX 1) (binX .Mod (varX 0) (callX (consL (varX 1) nilL) lenF))) (binX .Add (intX 1) (binX .FloorDiv (varX 0) (callX (consL (varX 1) nilL) lenF)))) (binX .FloorDiv (binX .Mult (varX 0) (varX 0)) (intX 5))) (intX 2)
theorem binX_of {op : Operator} {f g : XF} {loc : Loc} {H H1 H2' : Hp} {a b : V} (h1 : f loc H = some (a, H1)) (h2 : g loc H1 = some (b, H2')) : binX op f g loc H = binV op a b H2' := by
  simp only [binX, h1, h2]
theorem fmod_nat {i n : Nat} : ((i : Int)).fmod (n : Int) = ((i % n : Nat) : Int) := by
  rw [Int.fmod_eq_emod_of_nonneg _ (by omega)]
  omega
theorem fdiv_nat {i n : Nat} : ((i : Int)).fdiv (n : Int) = ((i / n : Nat) : Int) := by
  rw [Int.fdiv_eq_ediv_of_nonneg _ (by omega)]
  omega
theorem elt_run {N : List Int} (h1 : 1 ≤ N.length) (h2 : N.length ≤ 30) {H : Hp} (hH : H[12]? = some (.list (intsV N))) {i : Nat} (hi : i < 100000) :
    ∃ b : Nat, b < 2 ∧ eltF [some (.int (i : Int)), some (.ref 12)] H = some (.int (b : Int), H) := by
  have e0 : varX 0 [some (.int (i : Int)), some (.ref 12)] H = some (.int (i : Int), H) := rfl
  have el : callX (consL (varX 1) nilL) lenF [some (.int (i : Int)), some (.ref 12)] H = some (.int (N.length : Nat), H) := by
    have : consL (varX 1) nilL [some (.int (i : Int)), some (.ref 12)] H = some ([.ref 12], H) := rfl
    simp only [callX, this, lenF, hH]
    rw [if_pos (by simp [intsV]; omega)]
    simp [intsV]
  have hm : i % N.length < N.length := Nat.mod_lt _ (by omega)
  have em : binX .Mod (varX 0) (callX (consL (varX 1) nilL) lenF) [some (.int (i : Int)), some (.ref 12)] H = some (.int ((i % N.length : Nat) : Int), H) := by
    rw [binX_of e0 el]
    show (if ((N.length : Nat) : Int) ≠ 0 then some (V.int _, H) else none) = _
    rw [if_pos (by omega), fmod_nat]
  have ei : idxX (varX 1) (binX .Mod (varX 0) (callX (consL (varX 1) nilL) lenF)) [some (.int (i : Int)), some (.ref 12)] H = some (.int (N[i % N.length]), H) := by
    refine idxX_of' (H1 := H) (a := .ref 12) (i := .int ((i % N.length : Nat) : Int)) rfl em ?_
    unfold idxV
    dsimp only
    rw [if_pos (by generalize i % N.length = d at hm; omega), hH]
    dsimp only
    rw [show (intsV N).length = N.length by simp [intsV], seqIndex_nat hm]
    simp [intsV, hm]
  have ed : binX .FloorDiv (varX 0) (callX (consL (varX 1) nilL) lenF) [some (.int (i : Int)), some (.ref 12)] H = some (.int ((i / N.length : Nat) : Int), H) := by
    rw [binX_of e0 el]
    show (if ((N.length : Nat) : Int) ≠ 0 ∧ ((N.length : Nat) : Int).natAbs < 1073741824 then some (V.int _, H) else none) = _
    rw [if_pos (by omega), fdiv_nat]
  have e1 : binX .Add (intX 1) (binX .FloorDiv (varX 0) (callX (consL (varX 1) nilL) lenF)) [some (.int (i : Int)), some (.ref 12)] H = some (.int (1 + ((i / N.length : Nat) : Int)), H) := by
    rw [binX_of (H1 := H) (a := .int 1) rfl ed]; rfl
  have hd : i / N.length ≤ i := Nat.div_le_self _ _
  have e2 : binX .FloorDiv (idxX (varX 1) (binX .Mod (varX 0) (callX (consL (varX 1) nilL) lenF))) (binX .Add (intX 1) (binX .FloorDiv (varX 0) (callX (consL (varX 1) nilL) lenF))) [some (.int (i : Int)), some (.ref 12)] H =
      some (.int ((N[i % N.length]).fdiv (1 + ((i / N.length : Nat) : Int))), H) := by
    rw [binX_of ei e1]
    show (if (1 + ((i / N.length : Nat) : Int)) ≠ 0 ∧ (1 + ((i / N.length : Nat) : Int)).natAbs < 1073741824 then some (V.int _, H) else none) = _
    rw [if_pos (by generalize i / N.length = d at hd; omega)]
  have e3 : binX .Mult (varX 0) (varX 0) [some (.int (i : Int)), some (.ref 12)] H = some (.int ((i : Int) * i), H) := by
    rw [binX_of e0 e0]
    show (if ((i : Int)).natAbs < 2 ^ 60 then some (V.int _, H) else none) = _
    rw [if_pos (by omega)]
  have e4 : binX .FloorDiv (binX .Mult (varX 0) (varX 0)) (intX 5) [some (.int (i : Int)), some (.ref 12)] H = some (.int (((i : Int) * i).fdiv 5), H) := by
    rw [binX_of (b := .int 5) (H2' := H) e3 rfl]
    show (if ((5 : Int)) ≠ 0 ∧ ((5 : Int)).natAbs < 1073741824 then some (V.int _, H) else none) = _
    rw [if_pos (by decide)]
  have e5 : eltF [some (.int (i : Int)), some (.ref 12)] H = some (.int (((N[i % N.length]).fdiv (1 + ((i / N.length : Nat) : Int)) + ((i : Int) * i).fdiv 5).fmod 2), H) := by
    unfold eltF
    rw [binX_of (b := .int 2) (H2' := H) (binX_of e2 e4) rfl]
    show (if ((2 : Int)) ≠ 0 then some (V.int _, H) else none) = _
    rw [if_pos (by decide)]
  generalize (N[i % N.length]).fdiv (1 + ((i / N.length : Nat) : Int)) + ((i : Int) * i).fdiv 5 = z at e5
  have hz : z.fmod 2 = z % 2 := Int.fmod_eq_emod_of_nonneg _ (by omega)
  refine ⟨(z % 2).toNat, by omega, ?_⟩
  rw [e5, hz]
  congr 3
  omega
theorem push_run {Hb : Hp} {N : List Int} (h1 : 1 ≤ N.length) (h2 : N.length ≤ 30) (hH : Hb[12]? = some (O.list (intsV N))) {i : Nat} (hi : i < 100000) {s : List Nat} (hs : s.length < 100000) :
    ∃ b : Nat, b < 2 ∧ pushF eltF Hb.length (some (.int (0 + (i : Int) * 1)) :: [some (.ref 12)]) (Hb ++ [O.list (bitsV s)]) = some (Hb ++ [.list (bitsV (s ++ [b]))]) := by
  obtain ⟨b, hb, e⟩ := elt_run h1 h2 (H := Hb ++ [O.list (bitsV s)]) (get_app hH _) (i := i) hi
  refine ⟨b, hb, ?_⟩
  have : (0 + (i : Int) * 1) = i := by omega
  rw [this]
  unfold pushF
  rw [e]
  dsimp only
  rw [List.getElem?_append_right (Nat.le_refl _), Nat.sub_self]
  show (if (bitsV s).length < 1000000 then some ((Hb ++ [O.list (bitsV s)]).set Hb.length (O.list (bitsV s ++ [V.int (b : Int)]))) else none) = _
  rw [if_pos (by simp [bitsV]; omega), List.set_append_right _ _ (Nat.le_refl _)]
  simp [bitsV]
theorem comp_run {Hb : Hp} {N : List Int} (h1 : 1 ≤ N.length) (h2 : N.length ≤ 30) (hH : Hb[12]? = some (.list (intsV N))) : ∀ (k i : Nat) (s : List Nat), s.length = i → i + k < 100000 → (∀ b ∈ s, b < 2) →
    ∃ st : List Nat, rngComp eltF Hb.length [some (.ref 12)] 0 1 k i (Hb ++ [O.list (bitsV s)]) = some (Hb ++ [.list (bitsV st)]) ∧ st.length = i + k ∧ ∀ b ∈ st, b < 2
  | 0, i, s, hs, _, hb => ⟨s, rfl, by simpa using hs, hb⟩
  | k + 1, i, s, hs, hk, hb => by
    obtain ⟨b, hb2, e⟩ := push_run h1 h2 hH (i := i) (by omega) (s := s) (by omega)
    obtain ⟨st, e2, e3, e4⟩ := comp_run h1 h2 hH k (i + 1) (s ++ [b]) (by simp [hs]) (by omega) (fun c hc => by
      rcases List.mem_append.mp hc with h | h
      · exact hb c h
      · simp at h; subst h; exact hb2)
    refine ⟨st, ?_, by omega, e4⟩
    unfold rngComp
    rw [e]
    exact e2
theorem stream_run {H : Hp} {N : List Int} (h1 : 1 ≤ N.length) (h2 : N.length ≤ 30) (hH : H[12]? = some (.list (intsV N))) {loc : Loc} {len : Nat} (hl : loc[7]? = some (some (.int (len : Int)))) (hn : loc[1]? = some (some (.ref 12))) (hlen : len < 50000) :
    ∃ st : List Nat, compF [1] (callX (consL (varX 7) nilL) rangeF) eltF loc H = some (.ref (H.length + 1), H ++ [.rng 0 (len : Int) 1, .list (bitsV st)]) ∧ st.length = len ∧ ∀ b ∈ st, b < 2 := by
  have hH1 : (H ++ [O.rng 0 (len : Int) 1])[12]? = some (.list (intsV N)) := get_app hH _
  obtain ⟨st, e, e2, e3⟩ := comp_run h1 h2 hH1 len 0 [] rfl (by omega) (by simp)
  refine ⟨st, ?_, by omega, e3⟩
  have e0 : callX (consL (varX 7) nilL) rangeF loc H = some (.ref H.length, H ++ [.rng 0 (len : Int) 1]) := by
    simp [callX, consL, varX, hl, nilL, rangeF]
  have et : tailOf [1] loc = [some (.ref 12)] := by
    simp [tailOf, hn]
  have ek : (H ++ [O.rng 0 (len : Int) 1])[H.length]? = some (.rng 0 (len : Int) 1) := by simp
  simp only [compF, e0, ek, small_up (n := len) (by omega), if_true, et, rsz_up, Int.toNat_natCast]
  have e' : rngComp eltF (H ++ [O.rng 0 (len : Int) 1]).length [some (.ref 12)] 0 1 len 0 (H ++ [.rng 0 (len : Int) 1] ++ [.list []]) = some (H ++ [.rng 0 (len : Int) 1] ++ [.list (bitsV st)]) := e
  rw [e']
  simp
end Mine

namespace Mine
open _root_.PySem _root_.PySem.W

theorem sizes_run (l n : List V) : F_law_SIZES [] (H2 l n []) = some (.ref 18, H2 l n sizesT) := by kernel_rfl

/-- what is asked of one of the five sizes -/
structure SizeOk (q n m : Nat) (ver : Int) (bU sU mT fT : Hp) (p : Nat) (refs : List V) : Prop where
  qs : q < 5
  row : sizesT[q]? = some (.tup [.int ver, .int (n : Int)])
  blank : ∀ l nn : List V, F_law_blank [.int (n : Int)] (H2 l nn sizesT) = some (.ref 20, H2 l nn bU)
  spots : ∀ l nn : List V, F_law_spots [.ref 20, .int (n : Int)] (H2 l nn bU) = some (.ref (13 + p), H2 l nn sU)
  rf : sU[p]? = some (.list refs)
  mlen : refs.length = m
  sm : m < 1000
  mm : ∀ (l nn st : List V) (len : Int), F_make_matrix [.int (n : Int), .int (n : Int)] (H4 l nn sU (.rng 0 len 1) st []) = some (.ref (18 + sU.length + n), H4 l nn sU (.rng 0 len 1) st mT)
  fp : ∀ (l nn st : List V) (len : Int), F_add_finder_patterns [.ref (18 + sU.length + n), .int (n : Int), .int (n : Int)] (H4 l nn sU (.rng 0 len 1) st mT) = some (.none, H4 l nn sU (.rng 0 len 1) st fT)

theorem fmod_range (x : Int) {k : Nat} (hk : 0 < k) : 0 ≤ x.fmod k ∧ x.fmod k < k := by
  rw [Int.fmod_eq_emod_of_nonneg _ (by omega)]
  exact ⟨Int.emod_nonneg _ (by omega), Int.emod_lt_of_pos _ (by omega)⟩
theorem consS_assignT {asg : V → Loc → Hp → Option Loc} {f : XF} {g : SF} {loc loc1 : Loc} {H H1 : Hp} {v : V} (h : f loc H = some (v, H1)) (h2 : asg v loc H1 = some loc1) : consS (assignTF asg f) g loc H = g loc1 H1 := by
  simp only [consS, assignTF, h, h2]
theorem callX_of {g : LF} {F : Fn} {loc : Loc} {H H1 H2' : Hp} {vs : List V} {v : V} (h1 : g loc H = some (vs, H1)) (h2 : F vs H1 = some (v, H2')) : callX g F loc H = some (v, H2') := by
  simp only [callX, h1, h2]

/-- the law's frame while it makes things ready -/
noncomputable def lLoc (v2 v3 v4 v5 v6 v7 v8 v9 : Option V) : Loc := [some (.ref 11), some (.ref 12), v2, v3, v4, v5, v6, v7, v8, v9, none, none, none]
theorem num_at {l : List V} {N : List Int} {T : Hp} {j : Nat} (hj : j < N.length) (hN : N.length ≤ 30) : idxV (.ref 12) (.int (j : Int)) (H2 l (intsV N) T) = some (.int (N[j])) := by
  unfold idxV
  dsimp only
  rw [if_pos (by omega), H2_12]
  dsimp only
  rw [show (intsV N).length = N.length by simp [intsV], seqIndex_nat hj]
  simp [intsV, hj]
theorem num_last {l : List V} {N : List Int} {T : Hp} (h1 : 1 ≤ N.length) : idxV (.ref 12) (.int (-1)) (H2 l (intsV N) T) = some (.int (N[N.length - 1])) := by
  unfold idxV
  dsimp only
  rw [if_pos (by omega), H2_12]
  dsimp only
  rw [show (intsV N).length = N.length by simp [intsV], show seqIndex? (-1) N.length = some (N.length - 1) by unfold seqIndex?; simp; omega]
  simp [intsV]
theorem len_at {l : List V} {N : List Int} {T : Hp} (hN : N.length ≤ 30) : lenF [.ref 12] (H2 l (intsV N) T) = some (.int (N.length : Nat), H2 l (intsV N) T) := by
  unfold lenF
  dsimp only
  rw [H2_12]
  dsimp only
  rw [if_pos (by simp [intsV]; omega)]
  simp [intsV]
theorem mid_at {l : List V} {N : List Int} {T : Hp} {v2 v3 v4 v5 v6 v7 v8 v9 : Option V} (h1 : 1 ≤ N.length) (hN : N.length ≤ 30) :
    idxX (varX 1) (binX .FloorDiv (callX (consL (varX 1) nilL) lenF) (intX 2)) (lLoc v2 v3 v4 v5 v6 v7 v8 v9) (H2 l (intsV N) T) = some (.int (N[N.length / 2]), H2 l (intsV N) T) := by
  have e1 : callX (consL (varX 1) nilL) lenF (lLoc v2 v3 v4 v5 v6 v7 v8 v9) (H2 l (intsV N) T) = some (.int (N.length : Nat), H2 l (intsV N) T) := callX_of rfl (len_at hN)
  have e2 : binX .FloorDiv (callX (consL (varX 1) nilL) lenF) (intX 2) (lLoc v2 v3 v4 v5 v6 v7 v8 v9) (H2 l (intsV N) T) = some (.int ((N.length / 2 : Nat) : Int), H2 l (intsV N) T) := by
    rw [binX_of (b := .int 2) (H2' := H2 l (intsV N) T) e1 rfl]
    show (if ((2 : Int)) ≠ 0 ∧ ((2 : Int)).natAbs < 1073741824 then some (V.int _, _) else none) = _
    rw [if_pos (by decide)]
    have := @fdiv_nat N.length 2
    rw [show ((2 : Nat) : Int) = 2 from rfl] at this
    rw [this]
  exact idxX_of' (H1 := H2 l (intsV N) T) (a := .ref 12) rfl e2 (num_at (by omega) hN)
theorem ifF_no {t : TF} {f g : SF} {loc : Loc} {H : Hp} (h : t loc H = some (false, H)) (hg : g = nilS) : ifF t f g loc H = some (.next, loc, H) := by
  subst hg
  simp only [ifF, h, nilS]
theorem ifF_yes {t : TF} {f g : SF} {loc : Loc} {H : Hp} (h : t loc H = some (true, H)) : ifF t f g loc H = f loc H := by
  simp only [ifF, h]

noncomputable def lenA : SF := ifF (cmpT .Eq (varX 6) (intX 3)) (consS (augF 7 .Sub (binX .Mod (idxX (varX 1) (binX .FloorDiv (callX (consL (varX 1) nilL) lenF) (intX 2))) (binX .Add (varX 7) (intX 1)))) nilS) nilS
noncomputable def lenB : SF := ifF (cmpT .Eq (varX 6) (intX 4)) (consS (augF 7 .Add (binX .Add (intX 1) (binX .Mod (idxX (varX 1) (binX .FloorDiv (callX (consL (varX 1) nilL) lenF) (intX 2))) (intX 8)))) nilS) nilS
theorem len_run {l : List V} {N : List Int} {T : Hp} {v2 v3 v4 v5 v8 v9 : Option V} (h1 : 1 ≤ N.length) (hN : N.length ≤ 30) (kind : Int) (m : Nat) (g : SF) :
    ∃ len : Nat, consS lenA (consS lenB g) (lLoc v2 v3 v4 v5 (some (.int kind)) (some (.int (m : Int))) v8 v9) (H2 l (intsV N) T) = g (lLoc v2 v3 v4 v5 (some (.int kind)) (some (.int (len : Int))) v8 v9) (H2 l (intsV N) T) ∧
      ((kind = 4 ∧ m < len ∧ len ≤ m + 8) ∨ (kind ≠ 4 ∧ len ≤ m)) := by
  have ca : ∀ L : Int, cmpT .Eq (varX 6) (intX 3) (lLoc v2 v3 v4 v5 (some (.int kind)) (some (.int L)) v8 v9) (H2 l (intsV N) T) = some (kind == 3, H2 l (intsV N) T) := fun L => rfl
  have cb : ∀ L : Int, cmpT .Eq (varX 6) (intX 4) (lLoc v2 v3 v4 v5 (some (.int kind)) (some (.int L)) v8 v9) (H2 l (intsV N) T) = some (kind == 4, H2 l (intsV N) T) := fun L => rfl
  by_cases k3 : kind = 3
  · subst k3
    have r := fmod_range (N[N.length / 2]) (k := m + 1) (by omega)
    have e0 : binX .Add (varX 7) (intX 1) (lLoc v2 v3 v4 v5 (some (.int 3)) (some (.int (m : Int))) v8 v9) (H2 l (intsV N) T) = some (.int ((m : Int) + 1), H2 l (intsV N) T) := rfl
    have e1 : binX .Mod (idxX (varX 1) (binX .FloorDiv (callX (consL (varX 1) nilL) lenF) (intX 2))) (binX .Add (varX 7) (intX 1)) (lLoc v2 v3 v4 v5 (some (.int 3)) (some (.int (m : Int))) v8 v9) (H2 l (intsV N) T) =
        some (.int ((N[N.length / 2]).fmod ((m : Int) + 1)), H2 l (intsV N) T) := by
      rw [binX_of (mid_at h1 hN) e0]
      show (if ((m : Int) + 1) ≠ 0 then some (V.int _, _) else none) = _
      rw [if_pos (by omega)]
    rw [show (((m + 1 : Nat) : Int)) = (m : Int) + 1 by omega] at r
    refine ⟨m - ((N[N.length / 2]).fmod ((m : Int) + 1)).toNat, ?_, .inr ⟨by decide, by omega⟩⟩
    have e2 : lenA (lLoc v2 v3 v4 v5 (some (.int 3)) (some (.int (m : Int))) v8 v9) (H2 l (intsV N) T) = some (.next, lLoc v2 v3 v4 v5 (some (.int 3)) (some (.int ((m : Int) - (N[N.length / 2]).fmod ((m : Int) + 1)))) v8 v9, H2 l (intsV N) T) := by
      unfold lenA
      rw [ifF_yes (ca m)]
      refine (consS_of (augF_of (a := .int (m : Int)) (v := .int ((m : Int) - (N[N.length / 2]).fmod ((m : Int) + 1))) rfl e1 rfl)).trans rfl
    rw [consS_of e2]
    have e3 : lenB (lLoc v2 v3 v4 v5 (some (.int 3)) (some (.int ((m : Int) - (N[N.length / 2]).fmod ((m : Int) + 1)))) v8 v9) (H2 l (intsV N) T) = some (.next, lLoc v2 v3 v4 v5 (some (.int 3)) (some (.int ((m : Int) - (N[N.length / 2]).fmod ((m : Int) + 1)))) v8 v9, H2 l (intsV N) T) := by
      unfold lenB
      exact ifF_no (cb _) rfl
    rw [consS_of e3]
    congr 4
    congr 2
    omega
  · have e2 : lenA (lLoc v2 v3 v4 v5 (some (.int kind)) (some (.int (m : Int))) v8 v9) (H2 l (intsV N) T) = some (.next, lLoc v2 v3 v4 v5 (some (.int kind)) (some (.int (m : Int))) v8 v9, H2 l (intsV N) T) := by
      unfold lenA
      exact ifF_no (by rw [ca, beq_eq_false_iff_ne.mpr k3]) rfl
    by_cases k4 : kind = 4
    · subst k4
      have r := fmod_range (N[N.length / 2]) (k := 8) (by omega)
      have e1 : binX .Add (intX 1) (binX .Mod (idxX (varX 1) (binX .FloorDiv (callX (consL (varX 1) nilL) lenF) (intX 2))) (intX 8)) (lLoc v2 v3 v4 v5 (some (.int 4)) (some (.int (m : Int))) v8 v9) (H2 l (intsV N) T) =
          some (.int (1 + (N[N.length / 2]).fmod 8), H2 l (intsV N) T) := by
        have e0 : binX .Mod (idxX (varX 1) (binX .FloorDiv (callX (consL (varX 1) nilL) lenF) (intX 2))) (intX 8) (lLoc v2 v3 v4 v5 (some (.int 4)) (some (.int (m : Int))) v8 v9) (H2 l (intsV N) T) = some (.int ((N[N.length / 2]).fmod 8), H2 l (intsV N) T) := by
          rw [binX_of (b := .int 8) (H2' := H2 l (intsV N) T) (mid_at h1 hN) rfl]
          show (if ((8 : Int)) ≠ 0 then some (V.int _, _) else none) = _
          rw [if_pos (by omega)]
        rw [binX_of (a := .int 1) (H1 := H2 l (intsV N) T) rfl e0]
        rfl
      rw [show (((8 : Nat) : Int)) = 8 from rfl] at r
      refine ⟨m + 1 + ((N[N.length / 2]).fmod 8).toNat, ?_, .inl ⟨rfl, by omega, by omega⟩⟩
      rw [consS_of e2]
      have e3 : lenB (lLoc v2 v3 v4 v5 (some (.int 4)) (some (.int (m : Int))) v8 v9) (H2 l (intsV N) T) = some (.next, lLoc v2 v3 v4 v5 (some (.int 4)) (some (.int ((m : Int) + (1 + (N[N.length / 2]).fmod 8)))) v8 v9, H2 l (intsV N) T) := by
        unfold lenB
        rw [ifF_yes (cb m)]
        refine (consS_of (augF_of (a := .int (m : Int)) (v := .int ((m : Int) + (1 + (N[N.length / 2]).fmod 8))) rfl e1 rfl)).trans rfl
      rw [consS_of e3]
      congr 4
      congr 2
      omega
    · refine ⟨m, ?_, .inr ⟨k4, Nat.le_refl _⟩⟩
      rw [consS_of e2]
      have e3 : lenB (lLoc v2 v3 v4 v5 (some (.int kind)) (some (.int (m : Int))) v8 v9) (H2 l (intsV N) T) = some (.next, lLoc v2 v3 v4 v5 (some (.int kind)) (some (.int (m : Int))) v8 v9, H2 l (intsV N) T) := by
        unfold lenB
        exact ifF_no (by rw [cb, beq_eq_false_iff_ne.mpr k4]) rfl
      rw [consS_of e3]

noncomputable def restG : SF := consS (assignF 8 (compF [1] (callX (consL (varX 7) nilL) rangeF) eltF)) (consS (assignF 9 (callX (consL (varX 3) (consL (varX 3) nilL)) F_make_matrix)) (consS (exprF (callX (consL (varX 9) (consL (varX 3) (consL (varX 3) nilL))) F_add_finder_patterns)) nilS))
theorem pre_eq : f_law_pre = consS (assignF 1 (iteX (cmpT .Gt (callX (consL (varX 0) nilL) lenF) (intX 0)) (takeX (varX 0) (intX 30)) (lstX (consL (intX 0) nilL)))) (consS (assignTF (pairA (nameA 2) (nameA 3)) (idxX (callX nilL F_law_SIZES) (binX .Mod (idxX (varX 1) (intX 0)) (intX 5))))
  (consS (assignF 4 (callX (consL (varX 3) nilL) F_law_blank)) (consS (assignF 5 (callX (consL (varX 4) (consL (varX 3) nilL)) F_law_spots)) (consS (assignF 6 (binX .Mod (idxX (varX 1) (negX (intX 1))) (intX 5))) (consS (assignF 7 (callX (consL (varX 5) nilL) lenF)) (consS lenA (consS lenB restG))))))) := rfl
theorem pre_run {q n m : Nat} {ver : Int} {bU sU mT fT : Hp} {p : Nat} {refs : List V} (S : SizeOk q n m ver bU sU mT fT p refs) {xs : List Int} (hx : xs.length ≤ 63) (h1 : 1 ≤ (nums xs).length) (hq : ((nums xs)[0]).fmod 5 = (q : Int)) :
    ∃ (len : Nat) (st : List Nat) (kind : Int), f_law_pre locS (Hp0 xs) = some (.next, lLoc (some (.int ver)) (some (.int (n : Int))) (some (.ref 20)) (some (.ref (13 + p))) (some (.int kind)) (some (.int (len : Int))) (some (.ref (13 + sU.length + 1))) (some (.ref (18 + sU.length + n))),
        H4 (intsV xs) (intsV (nums xs)) sU (.rng 0 (len : Int) 1) (bitsV st) fT) ∧ st.length = len ∧ (∀ b ∈ st, b < 2) ∧ ((kind = 4 ∧ m < len ∧ len ≤ m + 8) ∨ (kind ≠ 4 ∧ len ≤ m)) := by
  have s0 := step0 hx
  have hN : (nums xs).length ≤ 30 := nums_len.2
  generalize nums xs = N at *
  generalize intsV xs = l at *
  have hm := S.sm
  have hqs := S.qs
  have f1 : idxX (callX nilL F_law_SIZES) (binX .Mod (idxX (varX 1) (intX 0)) (intX 5)) (lLoc none none none none none none none none) (H2 l (intsV N) []) = some (.ref (13 + q), H2 l (intsV N) sizesT) := by
    have a1 : callX nilL F_law_SIZES (lLoc none none none none none none none none) (H2 l (intsV N) []) = some (.ref 18, H2 l (intsV N) sizesT) := callX_of rfl (sizes_run _ _)
    have a2 : idxX (varX 1) (intX 0) (lLoc none none none none none none none none) (H2 l (intsV N) sizesT) = some (.int (N[0]), H2 l (intsV N) sizesT) :=
      idxX_of' (H1 := H2 l (intsV N) sizesT) (a := .ref 12) (i := .int ((0 : Nat) : Int)) rfl rfl (num_at (by omega) hN)
    have a3 : binX .Mod (idxX (varX 1) (intX 0)) (intX 5) (lLoc none none none none none none none none) (H2 l (intsV N) sizesT) = some (.int (q : Int), H2 l (intsV N) sizesT) := by
      rw [binX_of (b := .int 5) (H2' := H2 l (intsV N) sizesT) a2 rfl]
      show (if ((5 : Int)) ≠ 0 then some (V.int _, _) else none) = _
      rw [if_pos (by omega), hq]
    refine idxX_of' a1 a3 ?_
    unfold idxV
    dsimp only
    rw [if_pos (by omega), show (H2 l (intsV N) sizesT)[18]? = some (.list (rowRefs 13 5)) from H2_at (k := 5) rfl]
    dsimp only
    rw [show (rowRefs 13 5).length = 5 from rfl, seqIndex_nat hqs]
    simp [rowRefs, hqs]
  have f2 : pairA (nameA 2) (nameA 3) (.ref (13 + q)) (lLoc none none none none none none none none) (H2 l (intsV N) sizesT) = some (lLoc (some (.int ver)) (some (.int (n : Int))) none none none none none none) := by
    unfold pairA
    dsimp only
    rw [H2_at S.row]
    rfl
  have f3 : callX (consL (varX 3) nilL) F_law_blank (lLoc (some (.int ver)) (some (.int (n : Int))) none none none none none none) (H2 l (intsV N) sizesT) = some (.ref 20, H2 l (intsV N) bU) := callX_of rfl (S.blank _ _)
  have f4 : callX (consL (varX 4) (consL (varX 3) nilL)) F_law_spots (lLoc (some (.int ver)) (some (.int (n : Int))) (some (.ref 20)) none none none none none) (H2 l (intsV N) bU) = some (.ref (13 + p), H2 l (intsV N) sU) := callX_of rfl (S.spots _ _)
  have f5 : binX .Mod (idxX (varX 1) (negX (intX 1))) (intX 5) (lLoc (some (.int ver)) (some (.int (n : Int))) (some (.ref 20)) (some (.ref (13 + p))) none none none none) (H2 l (intsV N) sU) = some (.int ((N[N.length - 1]).fmod 5), H2 l (intsV N) sU) := by
    have a2 : idxX (varX 1) (negX (intX 1)) (lLoc (some (.int ver)) (some (.int (n : Int))) (some (.ref 20)) (some (.ref (13 + p))) none none none none) (H2 l (intsV N) sU) = some (.int (N[N.length - 1]), H2 l (intsV N) sU) :=
      idxX_of' (H1 := H2 l (intsV N) sU) (a := .ref 12) (i := .int (-1)) rfl rfl (num_last h1)
    rw [binX_of (b := .int 5) (H2' := H2 l (intsV N) sU) a2 rfl]
    show (if ((5 : Int)) ≠ 0 then some (V.int _, _) else none) = _
    rw [if_pos (by omega)]
  generalize (N[N.length - 1]).fmod 5 = kind at f5
  have f6 : callX (consL (varX 5) nilL) lenF (lLoc (some (.int ver)) (some (.int (n : Int))) (some (.ref 20)) (some (.ref (13 + p))) (some (.int kind)) none none none) (H2 l (intsV N) sU) = some (.int (m : Int), H2 l (intsV N) sU) := by
    refine callX_of (vs := [.ref (13 + p)]) (H1 := H2 l (intsV N) sU) rfl ?_
    unfold lenF
    dsimp only
    rw [H2_at S.rf]
    dsimp only
    rw [if_pos (by rw [S.mlen]; omega), S.mlen]
  obtain ⟨len, f7, hc⟩ := len_run (l := l) (N := N) (T := sU) (v2 := some (.int ver)) (v3 := some (.int (n : Int))) (v4 := some (.ref 20)) (v5 := some (.ref (13 + p))) (v8 := none) (v9 := none) h1 hN kind m restG
  have hlen : len < 50000 := by omega
  obtain ⟨st, f8, hst, hb⟩ := stream_run h1 hN (H2_12 l (intsV N) sU) (loc := lLoc (some (.int ver)) (some (.int (n : Int))) (some (.ref 20)) (some (.ref (13 + p))) (some (.int kind)) (some (.int (len : Int))) none none) rfl rfl hlen
  refine ⟨len, st, kind, ?_, hst, hb, hc⟩
  rw [H2_len, H2_app] at f8
  rw [pre_eq, consS_assign s0, show locS.set 1 (some (.ref 12)) = lLoc none none none none none none none none from rfl, consS_assignT f1 f2, consS_assign f3]
  show consS _ _ (lLoc (some (.int ver)) (some (.int (n : Int))) (some (.ref 20)) none none none none none) _ = _
  rw [consS_assign f4]
  show consS _ _ (lLoc (some (.int ver)) (some (.int (n : Int))) (some (.ref 20)) (some (.ref (13 + p))) none none none none) _ = _
  rw [consS_assign f5]
  show consS _ _ (lLoc (some (.int ver)) (some (.int (n : Int))) (some (.ref 20)) (some (.ref (13 + p))) (some (.int kind)) none none none) _ = _
  rw [consS_assign f6]
  show consS lenA (consS lenB restG) (lLoc (some (.int ver)) (some (.int (n : Int))) (some (.ref 20)) (some (.ref (13 + p))) (some (.int kind)) (some (.int (m : Int))) none none) _ = _
  rw [f7]
  unfold restG
  rw [consS_assign f8]
  show consS _ _ (lLoc (some (.int ver)) (some (.int (n : Int))) (some (.ref 20)) (some (.ref (13 + p))) (some (.int kind)) (some (.int (len : Int))) (some (.ref (13 + sU.length + 1))) none) (H4 l (intsV N) sU (.rng 0 (len : Int) 1) (bitsV st) []) = _
  have f9 : callX (consL (varX 3) (consL (varX 3) nilL)) F_make_matrix (lLoc (some (.int ver)) (some (.int (n : Int))) (some (.ref 20)) (some (.ref (13 + p))) (some (.int kind)) (some (.int (len : Int))) (some (.ref (13 + sU.length + 1))) none) (H4 l (intsV N) sU (.rng 0 (len : Int) 1) (bitsV st) []) =
      some (.ref (18 + sU.length + n), H4 l (intsV N) sU (.rng 0 (len : Int) 1) (bitsV st) mT) := callX_of rfl (S.mm _ _ _ _)
  rw [consS_assign f9]
  show consS _ _ (lLoc (some (.int ver)) (some (.int (n : Int))) (some (.ref 20)) (some (.ref (13 + p))) (some (.int kind)) (some (.int (len : Int))) (some (.ref (13 + sU.length + 1))) (some (.ref (18 + sU.length + n)))) _ = _
  have f10 : callX (consL (varX 9) (consL (varX 3) (consL (varX 3) nilL))) F_add_finder_patterns (lLoc (some (.int ver)) (some (.int (n : Int))) (some (.ref 20)) (some (.ref (13 + p))) (some (.int kind)) (some (.int (len : Int))) (some (.ref (13 + sU.length + 1))) (some (.ref (18 + sU.length + n)))) (H4 l (intsV N) sU (.rng 0 (len : Int) 1) (bitsV st) mT) =
      some (.none, H4 l (intsV N) sU (.rng 0 (len : Int) 1) (bitsV st) fT) := callX_of rfl (S.fp _ _ _ _)
  simp only [consS, exprF, f10, nilS]
end Mine

namespace Mine
open _root_.PySem _root_.PySem.W

/-! ### behind the try -/
/-- a run, and what comes behind it -/
noncomputable def thenS (f k : SF) : SF := fun loc H => match f loc H with
  | some (.next, l, H1) => k l H1
  | r => r
theorem thenS_cons (a g k : SF) : thenS (consS a g) k = consS a (thenS g k) := by
  funext loc H
  simp only [thenS, consS]
  cases a loc H with
  | none => rfl
  | some r =>
    obtain ⟨f, l, H1⟩ := r
    cases f <;> rfl
theorem thenS_nil (k : SF) : thenS nilS k = k := rfl
noncomputable def acLast : SF := ifF (cmpT .NotEq (varX 6) (callX (consL (varX 1) nilL) lenF)) failS nilS
theorem add_eq : f_add_codewords = thenS f_ac_pre (consS acLast nilS) := by
  unfold f_ac_pre
  simp only [thenS_cons, thenS_nil]
  rfl

/-- the facts of a size that the laying needs -/
structure SizeOk2 (n m p : Nat) (ver : Int) (sU fT : Hp) (G : Grid) (cells : List Cell) (refs : List V) : Prop where
  n8 : 8 ≤ n
  odd : n % 2 = 1
  sm : n < 100
  mm : m < 900
  dims : Dims G n
  rowsB : ∀ (i : Nat) row, G[i]? = some row → fT[3 + i]? = some (.ba row)
  tupB : fT[3 + n]? = some (.tup (rowRefs (18 + sU.length) n))
  due : sU[7]? = some (.list ((List.range n).map fun j => .ref (22 + 2 * j)))
  dueRows : ∀ (i : Nat) row, G[i]? = some row → sU[9 + 2 * i]? = some (.list (bitsV row))
  cellsEq : (allCells (decide (ver < 1)) n (incOf ver) ((n - 1) / 2)).filter (fun c => g2 G c == some 2) = cells
  nodup : (allCells (decide (ver < 1)) n (incOf ver) ((n - 1) / 2)).Nodup
  clen : cells.length = m
  pbig : 9 + 2 * n ≤ p
  spotAt : ∀ (t : Nat) (c : Cell), cells[t]? = some c → ∃ a, p ≤ a ∧ refs[t]? = some (.ref (13 + a)) ∧ sU[a]? = some (.tup [.int (c.1 : Int), .int (c.2 : Int)])

theorem H4_sU {l nn : List V} {sU : Hp} {o : O} {st : List V} {fT : Hp} {k : Nat} {x : O} (h : sU[k]? = some x) : (H4 l nn sU o st fT)[13 + k]? = some x := H2_at (get_app h _)
theorem H4_st {l nn : List V} {sU : Hp} {o : O} {st : List V} {fT : Hp} : (H4 l nn sU o st fT)[13 + sU.length + 1]? = some (.list st) := by
  unfold H4
  rw [show 13 + sU.length + 1 = 13 + (sU.length + 1) by omega]
  refine H2_at ?_
  rw [List.getElem?_append_right (by omega), show sU.length + 1 - sU.length = 1 by omega]
  rfl
theorem H4_fT {l nn : List V} {sU : Hp} {o : O} {st : List V} {fT : Hp} {k : Nat} {x : O} (h : fT[k]? = some x) : (H4 l nn sU o st fT)[15 + sU.length + k]? = some x := by
  unfold H4
  rw [show 15 + sU.length + k = 13 + (sU.length + (k + 2)) by omega]
  refine H2_at ?_
  rw [List.getElem?_append_right (by omega), show sU.length + (k + 2) - sU.length = k + 2 by omega]
  simpa using h

/-- what add_codewords leaves -/
theorem ac_all {n m p : Nat} {ver : Int} {sU fT : Hp} {G : Grid} {cells : List Cell} {refs : List V} (T : SizeOk2 n m p ver sU fT G cells refs) (l nn : List V) (o : O) {st : List Nat} (hl : st.length ≤ m + 8) (hb : ∀ b ∈ st, b < 2) :
    ∃ loc' H' t, f_ac_pre ([some (.ref (18 + sU.length + n)), some (.ref (13 + sU.length + 1)), some (.int ver)] ++ List.replicate 13 none) (H4 l nn sU o (bitsV st) fT) = some (.next, loc', H') ∧ loc'[6]? = some (some (.int (t : Nat))) ∧ loc'[1]? = some (some (.ref (13 + sU.length + 1))) ∧
      MI (H4 l nn sU o (bitsV st) fT) H' (18 + sU.length) n (lay G cells st) ∧ (st.length ≤ m → t = st.length) ∧ (m < st.length → t = m) := by
  have sm := T.sm
  have hmm := T.mm
  have A : AC (H4 l nn sU o (bitsV st) fT) (18 + sU.length + n) (13 + sU.length + 1) (18 + sU.length) n st := {
    m := by
      rw [show 18 + sU.length + n = 15 + sU.length + (3 + n) by omega]
      exact H4_fT T.tupB
    c := H4_st
    mo := .inr (Nat.le_refl _)
    co := .inl (by omega)
    lo := by omega
    sm := by omega
    sl := by omega
    bits := hb }
  have M : MI (H4 l nn sU o (bitsV st) fT) (H4 l nn sU o (bitsV st) fT) (18 + sU.length) n G := {
    len := T.dims.len
    rows := fun i row h => by
      rw [show 18 + sU.length + i = 15 + sU.length + (3 + i) by omega]
      exact H4_fT (T.rowsB i row h)
    wide := fun row h => by rw [T.dims.row row h]; omega
    oth := fun k x h _ => h }
  have hlen : 18 + sU.length + n ≤ (H4 l nn sU o (bitsV st) fT).length := Nat.le_of_lt (List.getElem?_eq_some_iff.mp A.m).1
  obtain ⟨loc', H', t, e, e6, e1, ht, M', hd⟩ := ac_run A hlen T.dims M (ver := ver) T.odd T.n8
  have hf := fill_lay (allCells (decide (ver < 1)) n (incOf ver) ((n - 1) / 2)) G st T.nodup
  rw [T.cellsEq] at hf
  rw [hf.1] at M'
  rw [hf.2, T.clen] at hd
  have hd' := congrArg List.length hd
  rw [List.length_drop, List.length_drop] at hd'
  exact ⟨loc', H', t, e, e6, e1, M', fun h => by omega, fun h => by omega⟩
end Mine

namespace Mine
open _root_.PySem _root_.PySem.W

/-! ### the law's own laying -/
structure MD (H0 H : Hp) (n : Nat) (G : Grid) : Prop where
  dims : Dims G n
  rows : ∀ (i : Nat) row, G[i]? = some row → H[22 + 2 * i]? = some (.list (bitsV row))
  oth : ∀ (k : Nat) o, H0[k]? = some o → (k < 22 ∨ 22 + 2 * n ≤ k) → H[k]? = some o
theorem MD.push {H0 H : Hp} {n : Nat} {G : Grid} (M : MD H0 H n G) (T : Hp) : MD H0 (H ++ T) n G :=
  ⟨M.dims, fun i r h => get_app (M.rows i r h) T, fun k o h1 h2 => get_app (M.oth k o h1 h2) T⟩
theorem dims_s2 {G : Grid} {n : Nat} (D : Dims G n) (c : Cell) (b : Nat) : Dims (s2 G c b) n := by
  refine ⟨by simp [s2, D.len], fun r h => ?_⟩
  unfold s2 at h
  obtain ⟨i, hi⟩ := List.getElem?_of_mem h
  rw [List.getElem?_modify] at hi
  by_cases hc : c.1 = i
  · cases e : G[i]? with
    | none => rw [e] at hi; simp at hi
    | some row =>
      rw [e] at hi
      simp [hc] at hi
      subst hi
      rw [List.length_set]
      exact D.row row (List.mem_of_getElem? e)
  · simp [hc] at hi
    exact D.row r (List.mem_of_getElem? hi)
theorem bitsV_set (row : List Nat) (j b : Nat) : bitsV (row.set j b) = (bitsV row).set j (.int (b : Int)) := by
  unfold bitsV
  rw [List.map_set]
theorem MD.set {H0 H : Hp} {n : Nat} {G : Grid} (M : MD H0 H n G) {ci cj b : Nat} {row : List Nat} (hr : G[ci]? = some row) : MD H0 (H.set (22 + 2 * ci) (.list ((bitsV row).set cj (.int (b : Int))))) n (s2 G (ci, cj) b) := by
  have hci : ci < n := by rw [← M.dims.len]; exact (List.getElem?_eq_some_iff.mp hr).1
  have hlt : 22 + 2 * ci < H.length := (List.getElem?_eq_some_iff.mp (M.rows ci row hr)).1
  refine ⟨dims_s2 M.dims _ _, fun i r h => ?_, fun k o h1 h2 => ?_⟩
  · unfold s2 at h
    rw [List.getElem?_modify] at h
    by_cases hi : ci = i
    · subst hi
      rw [hr] at h
      simp at h
      subst h
      rw [List.getElem?_set_self hlt, bitsV_set]
    · simp [hi] at h
      rw [List.getElem?_set_ne (by omega)]
      exact M.rows i r h
  · rw [List.getElem?_set_ne (by omega)]
    exact M.oth k o h1 h2

noncomputable def zAsg : V → Loc → Hp → Option Loc := pairA (pairA (nameA 10) (nameA 11)) (nameA 12)
noncomputable def zBody : SF := consS (storeF 12 (varX 12) (idxX (varX 4) (varX 10)) (varX 11)) nilS
noncomputable def zLoc (v2 v3 v5 v6 v7 v8 v9 e10 e11 e12 : Option V) : Loc := [some (.ref 11), some (.ref 12), v2, v3, some (.ref 20), v5, v6, v7, v8, v9, e10, e11, e12]

theorem idx_due {H0 H : Hp} {n : Nat} {G : Grid} (M : MD H0 H n G) (hn : n < 100) (hd : H0[20]? = some (.list ((List.range n).map fun j => .ref (22 + 2 * j)))) {i : Nat} (hi : i < n) : idxV (.ref 20) (.int (i : Int)) H = some (.ref (22 + 2 * i)) := by
  unfold idxV
  dsimp only
  rw [if_pos (by omega), M.oth 20 _ hd (.inl (by omega))]
  dsimp only
  rw [show ((List.range n).map fun j => V.ref (22 + 2 * j)).length = n by simp, seqIndex_nat hi]
  simp [hi]
theorem z_step {H0 H : Hp} {n : Nat} {G : Grid} (M : MD H0 H n G) (hn : n < 100) (hd : H0[20]? = some (.list ((List.range n).map fun j => .ref (22 + 2 * j)))) {ci cj b : Nat} (hi : ci < n) (hj : cj < n) {v2 v3 v5 v6 v7 v8 v9 : Option V} :
    ∃ H', zBody (zLoc v2 v3 v5 v6 v7 v8 v9 (some (.int (ci : Int))) (some (.int (cj : Int))) (some (.int (b : Int)))) H = some (.next, zLoc v2 v3 v5 v6 v7 v8 v9 (some (.int (ci : Int))) (some (.int (cj : Int))) (some (.int (b : Int))), H') ∧ MD H0 H' n (s2 G (ci, cj) b) := by
  have hl : ci < G.length := by rw [M.dims.len]; exact hi
  have hr : G[ci]? = some G[ci] := List.getElem?_eq_getElem hl
  have hrl := M.dims.row _ (List.getElem_mem hl)
  generalize G[ci] = row at hr hrl
  refine ⟨_, ?_, M.set hr⟩
  have e1 : idxX (varX 4) (varX 10) (zLoc v2 v3 v5 v6 v7 v8 v9 (some (.int (ci : Int))) (some (.int (cj : Int))) (some (.int (b : Int)))) H = some (.ref (22 + 2 * ci), H) :=
    idxX_of' (H1 := H) (a := .ref 20) (i := .int (ci : Int)) rfl rfl (idx_due M hn hd hi)
  have e2 : setV 12 (.ref (22 + 2 * ci)) (.int (cj : Int)) (.int (b : Int)) H = some (H.set (22 + 2 * ci) (.list ((bitsV row).set cj (.int (b : Int))))) := by
    unfold setV
    dsimp only
    rw [if_pos (by omega), M.rows ci row hr]
    dsimp only
    rw [if_pos (by simp [bitsV]; omega)]
    simp
  unfold zBody
  rw [consS_of (storeF_of (H1 := H) (H2 := H) (H3 := H) (v := .int (b : Int)) (a := .ref (22 + 2 * ci)) (i := .int (cj : Int)) rfl e1 rfl e2)]
  rfl

theorem pairA_of {f g : V → Loc → Hp → Option Loc} {k : Nat} {a b : V} {loc l1 l2 : Loc} {H : Hp} (h : H[k]? = some (.tup [a, b])) (h1 : f a loc H = some l1) (h2 : g b l1 H = some l2) : pairA f g (.ref k) loc H = some l2 := by
  simp only [pairA, h, h1, h2]
theorem zipLoop_step {asg : V → Loc → Hp → Option Loc} {body : SF} {k1 k2 n i : Nat} {xs ys : List V} {x y : V} {loc loc1 loc2 : Loc} {H H' : Hp} (h1 : H[k1]? = some (.list xs)) (h2 : H[k2]? = some (.list ys)) (hx : xs[i]? = some x) (hy : ys[i]? = some y)
    (ha : asg (.ref H.length) loc (H ++ [.tup [x, y]]) = some loc1) (hb : body loc1 (H ++ [.tup [x, y]]) = some (.next, loc2, H')) : zipLoop asg body k1 k2 (n + 1) i loc H = zipLoop asg body k1 k2 n (i + 1) loc2 H' := by
  conv => lhs; unfold zipLoop
  simp only [h1, h2, hx, hy, ha, hb]
theorem z_asg {k a : Nat} {u v w : V} {v2 v3 v5 v6 v7 v8 v9 e10 e11 e12 : Option V} {H : Hp} (g1 : H[k]? = some (.tup [.ref a, w])) (g2 : H[a]? = some (.tup [u, v])) :
    zAsg (.ref k) (zLoc v2 v3 v5 v6 v7 v8 v9 e10 e11 e12) H = some (zLoc v2 v3 v5 v6 v7 v8 v9 (some u) (some v) (some w)) := by
  have e : pairA (nameA 10) (nameA 11) (.ref a) (zLoc v2 v3 v5 v6 v7 v8 v9 e10 e11 e12) H = some (zLoc v2 v3 v5 v6 v7 v8 v9 (some u) (some v) e12) := pairA_of (l1 := zLoc v2 v3 v5 v6 v7 v8 v9 (some u) e11 e12) g2 rfl rfl
  exact pairA_of (l1 := zLoc v2 v3 v5 v6 v7 v8 v9 (some u) (some v) e12) g1 e rfl
theorem z_turn {H0 H : Hp} {n sp ck : Nat} (hn : n < 100) (hd : H0[20]? = some (.list ((List.range n).map fun j => .ref (22 + 2 * j)))) {refs : List V} {bs : List V} (hx : H0[sp]? = some (.list refs)) (hy : H0[ck]? = some (.list bs))
    (hsp : 22 + 2 * n ≤ sp) (hck : 22 + 2 * n ≤ ck) {D : Grid} (M : MD H0 H n D) {i fuel a ci cj b : Nat} (ha : 22 + 2 * n ≤ a) (hra : refs[i]? = some (.ref a)) (hb : bs[i]? = some (.int (b : Int))) (hat : H0[a]? = some (.tup [.int (ci : Int), .int (cj : Int)])) (hi : ci < n) (hj : cj < n)
    {v2 v3 v5 v6 v7 v8 v9 e10 e11 e12 : Option V} :
    ∃ H2', zipLoop zAsg zBody sp ck (fuel + 1) i (zLoc v2 v3 v5 v6 v7 v8 v9 e10 e11 e12) H = zipLoop zAsg zBody sp ck fuel (i + 1) (zLoc v2 v3 v5 v6 v7 v8 v9 (some (.int (ci : Int))) (some (.int (cj : Int))) (some (.int (b : Int)))) H2' ∧ MD H0 H2' n (s2 D (ci, cj) b) := by
  have M1 := M.push [.tup [.ref a, .int (b : Int)]]
  obtain ⟨H2', e2, M2⟩ := z_step M1 hn hd (b := b) hi hj (v2 := v2) (v3 := v3) (v5 := v5) (v6 := v6) (v7 := v7) (v8 := v8) (v9 := v9)
  have g1 : (H ++ [O.tup [.ref a, .int (b : Int)]])[H.length]? = some (.tup [.ref a, .int (b : Int)]) := by simp
  exact ⟨H2', zipLoop_step (M.oth sp _ hx (.inr hsp)) (M.oth ck _ hy (.inr hck)) hra hb (z_asg g1 (M1.oth a _ hat (.inr ha))) e2, M2⟩
theorem zip_run {H0 : Hp} {n sp ck : Nat} (hn : n < 100) (hd : H0[20]? = some (.list ((List.range n).map fun j => .ref (22 + 2 * j)))) {refs : List V} {cells : List Cell} {st : List Nat} (hx : H0[sp]? = some (.list refs)) (hy : H0[ck]? = some (.list (bitsV st)))
    (hsp : 22 + 2 * n ≤ sp) (hck : 22 + 2 * n ≤ ck) (hrl : refs.length = cells.length) (hst : st.length ≤ cells.length)
    (hsa : ∀ (t : Nat) (c : Cell), cells[t]? = some c → ∃ a, 22 + 2 * n ≤ a ∧ refs[t]? = some (.ref a) ∧ H0[a]? = some (.tup [.int (c.1 : Int), .int (c.2 : Int)])) (hin : ∀ c ∈ cells, c.1 < n ∧ c.2 < n) {v2 v3 v5 v6 v7 v8 v9 : Option V} (k : Nat) :
    ∀ (i fuel : Nat) (D : Grid) (H : Hp) (e10 e11 e12 : Option V), i + k = st.length → fuel + i = refs.length → MD H0 H n D →
      ∃ f10 f11 f12 H', zipLoop zAsg zBody sp ck fuel i (zLoc v2 v3 v5 v6 v7 v8 v9 e10 e11 e12) H = some (.next, zLoc v2 v3 v5 v6 v7 v8 v9 f10 f11 f12, H') ∧ MD H0 H' n (lay D (cells.drop i) (st.drop i)) := by
  induction k with
  | zero =>
    intro i fuel D H e10 e11 e12 h1 h2 M
    refine ⟨e10, e11, e12, H, ?_, ?_⟩
    · have hyi : (bitsV st)[i]? = none := by rw [List.getElem?_eq_none_iff]; simp [bitsV]; omega
      unfold zipLoop
      rw [M.oth sp _ hx (.inr hsp), M.oth ck _ hy (.inr hck)]
      dsimp only
      rw [hyi]
      cases refs[i]? <;> rfl
    · rw [show st.drop i = [] from List.drop_of_length_le (by omega), lay_nil]
      exact M
  | succ k ih =>
    intro i fuel D H e10 e11 e12 h1 h2 M
    have hi : i < st.length := by omega
    have hic : i < cells.length := by omega
    have hc : cells[i]? = some cells[i] := List.getElem?_eq_getElem hic
    have hci := hin _ (List.getElem_mem hic)
    have hdc : cells.drop i = cells[i] :: cells.drop (i + 1) := List.drop_eq_getElem_cons hic
    have hds : st.drop i = st[i] :: st.drop (i + 1) := List.drop_eq_getElem_cons hi
    obtain ⟨a, ha, hra, hat⟩ := hsa i _ hc
    have hb : (bitsV st)[i]? = some (.int ((st[i] : Nat) : Int)) := by simp [bitsV, hi]
    rw [hdc, hds]
    generalize cells[i] = c at *
    generalize st[i] = b at *
    obtain ⟨ci, cj⟩ := c
    obtain ⟨fuel', rfl⟩ : ∃ f, fuel = f + 1 := ⟨fuel - 1, by omega⟩
    obtain ⟨H2', e2, M2⟩ := z_turn hn hd hx hy hsp hck M (i := i) (fuel := fuel') ha hra hb hat hci.1 hci.2 (v2 := v2) (v3 := v3) (v5 := v5) (v6 := v6) (v7 := v7) (v8 := v8) (v9 := v9) (e10 := e10) (e11 := e11) (e12 := e12)
    obtain ⟨f10, f11, f12, H', e3, M3⟩ := ih (i + 1) fuel' (s2 D (ci, cj) b) H2' (some (.int (ci : Int))) (some (.int (cj : Int))) (some (.int (b : Int))) (by omega) (by omega) M2
    exact ⟨f10, f11, f12, H', e2.trans e3, M3⟩
end Mine

namespace Mine
open _root_.PySem _root_.PySem.W

/-! ### the last comparison -/
noncomputable def newsOf (G : Grid) (i : Nat) : Hp := (G.take i).map fun r => .list (bitsV r)
theorem newsOf_len {G : Grid} {i : Nat} (h : i ≤ G.length) : (newsOf G i).length = i := by simp [newsOf]; omega
theorem newsOf_succ {G : Grid} {i : Nat} {row : List Nat} (h : G[i]? = some row) : newsOf G (i + 1) = newsOf G i ++ [.list (bitsV row)] := by
  unfold newsOf
  rw [List.take_add_one, h]
  simp
theorem rowRefs_succ (r n : Nat) : rowRefs r (n + 1) = rowRefs r n ++ [.ref (r + n)] := by
  unfold rowRefs
  rw [List.range_succ]
  simp
noncomputable def eltB : XF := callX (consL (varX 0) nilL) listBaF
theorem eltB_run {Hz : Hp} {st : SpSt} {k : Nat} {row : List Nat} (h : Hz[k]? = some (.ba row)) (hl : row.length < 1000) : eltB [some (.ref k)] (SH Hz st) = some (.ref (Hz.length + 1 + st.2.length), SH Hz (st.1, st.2 ++ [.list (bitsV row)])) := by
  refine callX_of (vs := [.ref k]) (H1 := SH Hz st) rfl ?_
  unfold listBaF
  dsimp only
  rw [SH_old h]
  dsimp only
  rw [if_pos (by omega), SH_len, SH_push]
  rfl
theorem seq_run {Hz : Hp} {mk r0 n : Nat} {G : Grid} (D : Dims G n) (hn : n < 100) (hm : Hz[mk]? = some (.tup (rowRefs r0 n))) (hr : ∀ (i : Nat) row, G[i]? = some row → Hz[r0 + i]? = some (.ba row)) (k : Nat) : ∀ i, i + k = n →
    seqComp eltB Hz.length [] mk false k i (SH Hz (rowRefs (Hz.length + 1) i, newsOf G i)) = some (SH Hz (rowRefs (Hz.length + 1) n, newsOf G n)) := by
  induction k with
  | zero =>
    intro i hi
    obtain rfl : i = n := by omega
    have e1 : itemsAt (SH Hz (rowRefs (Hz.length + 1) i, newsOf G i)) mk = some (false, rowRefs r0 i) := by unfold itemsAt; rw [SH_old hm]
    have e2 : (rowRefs r0 i)[i]? = none := by rw [List.getElem?_eq_none_iff]; simp [rowRefs]
    unfold seqComp
    simp only [e1, e2, if_true]
  | succ k ih =>
    intro i hi
    have e1 : itemsAt (SH Hz (rowRefs (Hz.length + 1) i, newsOf G i)) mk = some (false, rowRefs r0 n) := by unfold itemsAt; rw [SH_old hm]
    have hin : i < n := by omega
    have e2 : (rowRefs r0 n)[i]? = some (.ref (r0 + i)) := by simp [rowRefs, hin]
    have hl : i < G.length := by rw [D.len]; exact hin
    have hg : G[i]? = some G[i] := List.getElem?_eq_getElem hl
    have hrl := D.row _ (List.getElem_mem hl)
    generalize G[i] = row at hg hrl
    have e3 : pushF eltB Hz.length [some (.ref (r0 + i))] (SH Hz (rowRefs (Hz.length + 1) i, newsOf G i)) = some (SH Hz (rowRefs (Hz.length + 1) (i + 1), newsOf G (i + 1))) := by
      unfold pushF
      rw [eltB_run (hr i row hg) (by omega)]
      dsimp only
      rw [SH_at]
      dsimp only
      rw [if_pos (by simp [rowRefs]; omega), SH_set, newsOf_len (by omega), ← rowRefs_succ, ← newsOf_succ hg]
    unfold seqComp
    simp only [e1, e2, if_true, e3]
    exact ih (i + 1) (by omega)
theorem rowsSame_of {H : Hp} : ∀ {as bs : List V}, as.length = bs.length → (∀ (j : Nat) a b, as[j]? = some a → bs[j]? = some b → rowSame H a b = true) → rowsSame H as bs = true
  | [], [], _, _ => rfl
  | [], b :: bs, h, _ => by simp at h
  | a :: as, [], h, _ => by simp at h
  | a :: as, b :: bs, h, k => by
    unfold rowsSame
    rw [k 0 a b rfl rfl, rowsSame_of (by simpa using h) (fun j x y h1 h2 => k (j + 1) x y (by simpa using h1) (by simpa using h2))]
    rfl
theorem bits_int (row : List Nat) : (bitsV row).all isInt = true := by
  unfold bitsV
  rw [List.all_map]
  simp [isInt]
theorem cmp_run {Hz : Hp} {mk r0 n : Nat} {G : Grid} (D : Dims G n) (hn : n < 100) (hm : Hz[mk]? = some (.tup (rowRefs r0 n))) (hr : ∀ (i : Nat) row, G[i]? = some row → Hz[r0 + i]? = some (.ba row))
    (hd : Hz[20]? = some (.list ((List.range n).map fun j => .ref (22 + 2 * j)))) (hdr : ∀ (i : Nat) row, G[i]? = some row → Hz[22 + 2 * i]? = some (.list (bitsV row))) (h0 : Hz[0]? = some .tab) {v2 v3 v5 v6 v7 v8 e10 e11 e12 : Option V} :
    ∃ H3, eqLLF (compF [] (varX 9) eltB) (varX 4) (zLoc v2 v3 v5 v6 v7 v8 (some (.ref mk)) e10 e11 e12) Hz = some (.bool true, H3) ∧ H3[0]? = some .tab := by
  have e1 : compF [] (varX 9) eltB (zLoc v2 v3 v5 v6 v7 v8 (some (.ref mk)) e10 e11 e12) Hz = some (.ref Hz.length, SH Hz (rowRefs (Hz.length + 1) n, newsOf G n)) := by
    have a1 : varX 9 (zLoc v2 v3 v5 v6 v7 v8 (some (.ref mk)) e10 e11 e12) Hz = some (.ref mk, Hz) := rfl
    have a2 : (rowRefs r0 n).length = n := by simp [rowRefs]
    have a3 := seq_run D hn hm hr n 0 (by omega)
    have a4 : SH Hz (rowRefs (Hz.length + 1) 0, newsOf G 0) = Hz ++ [.list []] := by simp [SH, rowRefs, newsOf]
    rw [a4] at a3
    have a5 : tailOf [] (zLoc v2 v3 v5 v6 v7 v8 (some (.ref mk)) e10 e11 e12) = [] := rfl
    simp only [compF, a1, hm, a2, a5, a3]
  have e2 : varX 4 (zLoc v2 v3 v5 v6 v7 v8 (some (.ref mk)) e10 e11 e12) (SH Hz (rowRefs (Hz.length + 1) n, newsOf G n)) = some (.ref 20, SH Hz (rowRefs (Hz.length + 1) n, newsOf G n)) := rfl
  refine ⟨SH Hz (rowRefs (Hz.length + 1) n, newsOf G n), ?_, SH_old h0⟩
  have e3 : rowsSame (SH Hz (rowRefs (Hz.length + 1) n, newsOf G n)) (rowRefs (Hz.length + 1) n) ((List.range n).map fun j => .ref (22 + 2 * j)) = true := by
    refine rowsSame_of (by simp [rowRefs]) fun j a b h1 h2 => ?_
    have hj : j < n := by
      have := (List.getElem?_eq_some_iff.mp h1).1
      simpa [rowRefs] using this
    have ha : a = .ref (Hz.length + 1 + j) := by simp [rowRefs, hj] at h1; exact h1.symm
    have hb : b = .ref (22 + 2 * j) := by simp [hj] at h2; exact h2.symm
    subst ha; subst hb
    have hl : j < G.length := by rw [D.len]; exact hj
    have hg : G[j]? = some G[j] := List.getElem?_eq_getElem hl
    generalize G[j] = row at hg
    have g1 : (SH Hz (rowRefs (Hz.length + 1) n, newsOf G n))[Hz.length + 1 + j]? = some (.list (bitsV row)) := SH_new _ _ (by
      show (newsOf G n)[j]? = _
      unfold newsOf
      rw [List.getElem?_map, List.getElem?_take_of_lt hj, hg]
      rfl)
    have g2 : (SH Hz (rowRefs (Hz.length + 1) n, newsOf G n))[22 + 2 * j]? = some (.list (bitsV row)) := SH_old (hdr j row hg)
    have hlt := (List.getElem?_eq_some_iff.mp (hdr j row hg)).1
    unfold rowSame
    dsimp only
    rw [g1, g2]
    dsimp only
    rw [bits_int]
    have : (Hz.length + 1 + j != 22 + 2 * j) = true := by rw [bne_iff_ne]; omega
    rw [this]
    simp
  simp only [eqLLF, e1, e2, SH_at, SH_old hd, e3, if_true]
end Mine

namespace Mine
open _root_.PySem _root_.PySem.W

theorem g2_in {G : Grid} {n : Nat} (D : Dims G n) {c : Cell} {x : Nat} (h : g2 G c = some x) : c.1 < n ∧ c.2 < n := by
  obtain ⟨row, hr, hx⟩ := Option.bind_eq_some_iff.mp h
  have h1 := (List.getElem?_eq_some_iff.mp hr).1
  have h2 := (List.getElem?_eq_some_iff.mp hx).1
  rw [D.len] at h1
  rw [D.row row (List.mem_of_getElem? hr)] at h2
  exact ⟨h1, h2⟩
theorem post_eq : f_law_post = consS (ifF (cmpT .Eq (varX 6) (intX 4)) (consS (retF (boolX false)) nilS) nilS) (consS (zipF zAsg (consL (varX 5) (consL (varX 8) nilL)) zBody) (consS (retF (eqLLF (compF [] (varX 9) eltB) (varX 4))) nilS)) := rfl

theorem last_ok {loc : Loc} {H : Hp} {t ck : Nat} {st : List Nat} (h6 : loc[6]? = some (some (.int (t : Nat)))) (h1 : loc[1]? = some (some (.ref ck))) (hk : H[ck]? = some (.list (bitsV st))) (ht : t = st.length) (hl : st.length < 1000) : consS acLast nilS loc H = some (.next, loc, H) := by
  have e1 : callX (consL (varX 1) nilL) lenF loc H = some (.int (st.length : Nat), H) := by
    refine callX_of (vs := [.ref ck]) (H1 := H) (by simp [consL, varX, h1, nilL]) ?_
    unfold lenF
    dsimp only
    rw [hk]
    dsimp only
    rw [if_pos (by simp [bitsV]; omega)]
    simp [bitsV]
  have e2 : cmpT .NotEq (varX 6) (callX (consL (varX 1) nilL) lenF) loc H = some (false, H) := by
    subst ht
    simp [cmpT, varX, h6, e1, cmpV]
  rw [consS_of (show acLast loc H = some (.next, loc, H) from ifF_no e2 rfl)]
  rfl

theorem good_of {q n m p : Nat} {ver : Int} {bU sU mT fT : Hp} {G : Grid} {cells : List Cell} {refs : List V} (S : SizeOk q n m ver bU sU mT fT p refs) (T : SizeOk2 n m p ver sU fT G cells refs) {xs : List Int} (hx : xs.length ≤ 63) (h1 : 1 ≤ (nums xs).length) (hq : ((nums xs)[0]).fmod 5 = (q : Int)) : GoodScript xs := by
  obtain ⟨len, st, kind, e, hst, hb, hc⟩ := pre_run S hx h1 hq
  refine ⟨_, _, e, ?_⟩
  have mm := T.mm
  have sm := T.sm
  have hp : p < sU.length := (List.getElem?_eq_some_iff.mp S.rf).1
  have hpb := T.pbig
  have hl8 : st.length ≤ m + 8 := by rcases hc with ⟨_, _, h⟩ | ⟨_, h⟩ <;> omega
  obtain ⟨loc', H', t, e2, e6, e1, M, t1, t2⟩ := ac_all T (intsV xs) (intsV (nums xs)) (.rng 0 (len : Int) 1) hl8 hb
  have hst' : H'[13 + sU.length + 1]? = some (.list (bitsV st)) := M.oth _ _ H4_st (.inl (by omega))
  have h0' : H'[0]? = some .tab := M.oth 0 _ (H2_0 _ _ _) (.inl (by omega))
  rcases hc with ⟨rfl, hc1, hc2⟩ | ⟨hk, hc1⟩
  · refine .inr ⟨[.ref (18 + sU.length + n), .ref (13 + sU.length + 1), .int ver], _, H', loc', ((t : Nat) : Int), 13 + sU.length + 1, bitsV st, rfl, rfl, e2, e6, e1, hst', by simp [bitsV]; omega, ?_, ?_, h0', rfl⟩
    · have : t = m := t2 (by omega)
      have : ((t : Nat) : Int).natAbs = t := Int.natAbs_natCast t
      omega
    · have : t = m := t2 (by omega)
      simp [bitsV]
      omega
  · have ht : t = st.length := t1 (by omega)
    have old : ∀ {k : Nat} {x : O}, sU[k]? = some x → H'[13 + k]? = some x := fun {k x} h => M.oth _ _ (H4_sU h) (.inl (by have := (List.getElem?_eq_some_iff.mp h).1; omega))
    have MD0 : MD H' H' n G := {
      dims := T.dims
      rows := fun i row h => by
        rw [show 22 + 2 * i = 13 + (9 + 2 * i) by omega]
        exact old (T.dueRows i row h)
      oth := fun k o h _ => h }
    obtain ⟨f10, f11, f12, Hz, ez, MZ⟩ := zip_run (H0 := H') (n := n) (sp := 13 + p) (ck := 13 + sU.length + 1) sm (old T.due) (refs := refs) (cells := cells) (st := st) (old S.rf) hst' (by omega) (by omega) (by rw [S.mlen, T.clen]) (by rw [T.clen]; omega)
      (fun t c h => by
        obtain ⟨a, h1, h2, h3⟩ := T.spotAt t c h
        exact ⟨13 + a, by omega, h2, old h3⟩)
      (fun c hc => by
        rw [← T.cellsEq] at hc
        exact g2_in T.dims (by simpa using (List.mem_filter.mp hc).2))
      (v2 := some (.int ver)) (v3 := some (.int (n : Int))) (v5 := some (.ref (13 + p))) (v6 := some (.int kind)) (v7 := some (.int (len : Int))) (v8 := some (.ref (13 + sU.length + 1))) (v9 := some (.ref (18 + sU.length + n)))
      st.length 0 refs.length G H' none none none (by omega) (by omega) MD0
    rw [List.drop_zero, List.drop_zero] at MZ
    have hm : H'[18 + sU.length + n]? = some (.tup (rowRefs (18 + sU.length) n)) := M.oth _ _ (by
      rw [show 18 + sU.length + n = 15 + sU.length + (3 + n) by omega]
      exact H4_fT T.tupB) (.inr (Nat.le_refl _))
    obtain ⟨H3, ec, h03⟩ := cmp_run (Hz := Hz) (mk := 18 + sU.length + n) (r0 := 18 + sU.length) MZ.dims sm (MZ.oth _ _ hm (.inr (by omega))) (fun i row h => MZ.oth _ _ (M.rows i row h) (.inr (by omega))) (MZ.oth 20 _ (old T.due) (.inl (by omega))) MZ.rows (MZ.oth 0 _ h0' (.inl (by omega)))
      (v2 := some (.int ver)) (v3 := some (.int (n : Int))) (v5 := some (.ref (13 + p))) (v6 := some (.int kind)) (v7 := some (.int (len : Int))) (v8 := some (.ref (13 + sU.length + 1))) (e10 := f10) (e11 := f11) (e12 := f12)
    refine .inl ⟨H', zLoc (some (.int ver)) (some (.int (n : Int))) (some (.ref (13 + p))) (some (.int kind)) (some (.int (len : Int))) (some (.ref (13 + sU.length + 1))) (some (.ref (18 + sU.length + n))) f10 f11 f12, H3, ?_, ?_, h03⟩
    · refine callX_of (vs := [.ref (18 + sU.length + n), .ref (13 + sU.length + 1), .int ver]) (H1 := H4 (intsV xs) (intsV (nums xs)) sU (.rng 0 (len : Int) 1) (bitsV st) fT) rfl ?_
      have ef : f_add_codewords ([some (.ref (18 + sU.length + n)), some (.ref (13 + sU.length + 1)), some (.int ver)] ++ List.replicate 13 none) (H4 (intsV xs) (intsV (nums xs)) sU (.rng 0 (len : Int) 1) (bitsV st) fT) = some (.next, loc', H') := by
        rw [add_eq]
        unfold thenS
        rw [e2]
        exact last_ok e6 e1 hst' ht (by omega)
      unfold F_add_codewords fnF
      show (match f_add_codewords ([some (.ref (18 + sU.length + n)), some (.ref (13 + sU.length + 1)), some (.int ver)] ++ List.replicate 13 none) (H4 (intsV xs) (intsV (nums xs)) sU (.rng 0 (len : Int) 1) (bitsV st) fT) with
        | some (.ret v, _, H') => some (v, H')
        | some (.next, _, H') => some (V.none, H')
        | none => none) = _
      rw [ef]
    · rw [post_eq]
      have c1 : ifF (cmpT .Eq (varX 6) (intX 4)) (consS (retF (boolX false)) nilS) nilS (zLoc (some (.int ver)) (some (.int (n : Int))) (some (.ref (13 + p))) (some (.int kind)) (some (.int (len : Int))) (some (.ref (13 + sU.length + 1))) (some (.ref (18 + sU.length + n))) none none none) H' =
          some (.next, zLoc (some (.int ver)) (some (.int (n : Int))) (some (.ref (13 + p))) (some (.int kind)) (some (.int (len : Int))) (some (.ref (13 + sU.length + 1))) (some (.ref (18 + sU.length + n))) none none none, H') := by
        refine ifF_no ?_ rfl
        show some (kind == 4, H') = _
        rw [beq_eq_false_iff_ne.mpr hk]
      show consS _ _ (zLoc (some (.int ver)) (some (.int (n : Int))) (some (.ref (13 + p))) (some (.int kind)) (some (.int (len : Int))) (some (.ref (13 + sU.length + 1))) (some (.ref (18 + sU.length + n))) none none none) H' = _
      rw [consS_of c1]
      have c2 : zipF zAsg (consL (varX 5) (consL (varX 8) nilL)) zBody (zLoc (some (.int ver)) (some (.int (n : Int))) (some (.ref (13 + p))) (some (.int kind)) (some (.int (len : Int))) (some (.ref (13 + sU.length + 1))) (some (.ref (18 + sU.length + n))) none none none) H' =
          some (.next, zLoc (some (.int ver)) (some (.int (n : Int))) (some (.ref (13 + p))) (some (.int kind)) (some (.int (len : Int))) (some (.ref (13 + sU.length + 1))) (some (.ref (18 + sU.length + n))) f10 f11 f12, Hz) := by
        have g : consL (varX 5) (consL (varX 8) nilL) (zLoc (some (.int ver)) (some (.int (n : Int))) (some (.ref (13 + p))) (some (.int kind)) (some (.int (len : Int))) (some (.ref (13 + sU.length + 1))) (some (.ref (18 + sU.length + n))) none none none) H' = some ([.ref (13 + p), .ref (13 + sU.length + 1)], H') := rfl
        simp only [zipF, g, old S.rf, hst']
        exact ez
      rw [consS_of c2]
      simp only [consS, retF, ec]
end Mine

namespace Mine
open _root_.PySem _root_.PySem.W

/-! ### the parts that depend on the size alone: written out, and looked through by the kernel -/
noncomputable def strRefs (r0 n : Nat) : List V := (List.range n).map fun j => .ref (r0 + 2 * j)
noncomputable def dI : Nat → Nat → List V
  | 0, _ => []
  | n + 1, x => .int (Int.ofNat (x % 32)) :: dI n (x / 32)
noncomputable def dN : Nat → Nat → List Nat
  | 0, _ => []
  | n + 1, x => x % 32 :: dN n (x / 32)
noncomputable def dF : Nat → Nat → List V
  | 0, _ => []
  | n + 1, x => .ref (x % 1024) :: dF n (x / 1024)
noncomputable def oL (n x : Nat) : O := .list (dI n x)
noncomputable def oT (n x : Nat) : O := .tup (dI n x)
noncomputable def oB (n x : Nat) : O := .ba (dN n x)
noncomputable def oF (n x : Nat) : O := .list (dF n x)
noncomputable def oG (n x : Nat) : O := .tup (dF n x)
noncomputable def oR (a b : Nat) : O := .rng (Int.ofNat a) (Int.ofNat b) 1
noncomputable def oM : O := .tup [.int (-8), .int 0]
noncomputable def oS (r0 n : Nat) : O := .list (strRefs r0 n)
noncomputable def oP (r0 n : Nat) : O := .tup (rowRefs r0 n)
noncomputable def rp (k : Nat) (o : O) : Hp := List.replicate k o
noncomputable def cat : List Hp → Hp
  | [] => []
  | a :: r => a ++ cat r
noncomputable def bI : Int → Int → Bool
  | .ofNat a, .ofNat b => Nat.beq a b
  | .negSucc a, .negSucc b => Nat.beq a b
  | _, _ => false
theorem bI_eq : ∀ {a b : Int}, bI a b = true → a = b
  | .ofNat a, .ofNat b, h => congrArg Int.ofNat (Nat.eq_of_beq_eq_true h)
  | .negSucc a, .negSucc b, h => congrArg Int.negSucc (Nat.eq_of_beq_eq_true h)
  | .ofNat a, .negSucc b, h => by cases h
  | .negSucc a, .ofNat b, h => by cases h
noncomputable def bV : V → V → Bool
  | .none, .none => true
  | .bool true, .bool true => true
  | .bool false, .bool false => true
  | .int a, .int b => bI a b
  | .ref a, .ref b => Nat.beq a b
  | _, _ => false
theorem bV_eq {a b : V} (h : bV a b = true) : a = b := by
  unfold bV at h
  split at h
  · rfl
  · rfl
  · rfl
  · rw [bI_eq h]
  · rw [Nat.eq_of_beq_eq_true h]
  · cases h
noncomputable def bL {α : Type} (f : α → α → Bool) : List α → List α → Bool
  | [], [] => true
  | a :: r, b :: q => match f a b with
    | true => bL f r q
    | false => false
  | _, _ => false
theorem bL_eq {α : Type} {f : α → α → Bool} (hf : ∀ {a b}, f a b = true → a = b) : ∀ {r q : List α}, bL f r q = true → r = q
  | [], [], _ => rfl
  | a :: r, b :: q, h => by
    unfold bL at h
    split at h
    · rename_i e
      rw [hf e, bL_eq hf h]
    · cases h
  | [], b :: q, h => by cases h
  | a :: r, [], h => by cases h
noncomputable def bO : O → O → Bool
  | .list a, .list b => bL bV a b
  | .tup a, .tup b => bL bV a b
  | .ba a, .ba b => bL Nat.beq a b
  | .rng a b c, .rng d e f => match bI a d with
    | true => (match bI b e with
      | true => bI c f
      | false => false)
    | false => false
  | .tab, .tab => true
  | _, _ => false
theorem bO_eq {a b : O} (h : bO a b = true) : a = b := by
  unfold bO at h
  split at h
  · rw [bL_eq bV_eq h]
  · rw [bL_eq bV_eq h]
  · rw [bL_eq Nat.eq_of_beq_eq_true h]
  · split at h
    · rename_i e1
      split at h
      · rename_i e2
        rw [bI_eq e1, bI_eq e2, bI_eq h]
      · cases h
    · cases h
  · rfl
  · cases h
noncomputable def bH (a b : Hp) : Bool := bL bO a b
theorem bH_eq {a b : Hp} (h : bH a b = true) : a = b := bL_eq bO_eq h
noncomputable def spl2 (r : Option (V × Hp)) (v : V) (T : Hp) : Option (O × O × Bool) := match r with
  | some (w, H) => (match H.drop 11 with
    | a :: b :: U => some (a, b, bV w v && bH (H.take 11) A11 && bH U T)
    | _ => none)
  | none => none
noncomputable def one2 (x : Option (O × O × Bool)) : O × O := match x with
  | some (a, b, c) => (match c with
    | true => (a, b)
    | false => (.tab, .tab))
  | none => (.tab, .tab)
theorem spl2_eq {r : Option (V × Hp)} {v : V} {T : Hp} {l n : List V} (h1 : one2 (spl2 r v T) = (.list l, .list n)) : r = some (v, H2 l n T) := by
  have h : spl2 r v T = some (.list l, .list n, true) := by
    generalize spl2 r v T = x at h1
    match x, h1 with
    | some (a, b, true), h1 => cases h1; rfl
    | some (a, b, false), h1 => cases h1
    | none, h1 => cases h1
  unfold spl2 at h
  split at h
  · rename_i w H
    split at h
    · rename_i a b U e
      simp only [Option.some.injEq, Prod.mk.injEq, Bool.and_eq_true] at h
      obtain ⟨rfl, rfl, ⟨e6, h5⟩, e7⟩ := h
      obtain rfl := bV_eq e6
      obtain rfl := bH_eq e7
      have h5 := bH_eq h5
      have := List.take_append_drop 11 H
      rw [h5, e] at this
      rw [← this]
      rfl
    · cases h
  · cases h
noncomputable def spl4 (r : Option (V × Hp)) (v : V) (T : Hp) (U : Hp) : Option (O × O × O × O × Bool) := match r with
  | some (w, H) => (match H.drop 11 with
    | a :: b :: X => (match X.drop T.length with
      | c :: d :: Y => some (a, b, c, d, bV w v && bH (H.take 11) A11 && bH (X.take T.length) T && bH Y U)
      | _ => none)
    | _ => none)
  | none => none
noncomputable def one4 (x : Option (O × O × O × O × Bool)) : O × O × O × O := match x with
  | some (a, b, c, d, e) => (match e with
    | true => (a, b, c, d)
    | false => (.tab, .tab, .tab, .tab))
  | none => (.tab, .tab, .tab, .tab)
theorem spl4_eq {r : Option (V × Hp)} {v : V} {T U : Hp} {l n st : List V} {o : O} (h1 : one4 (spl4 r v T U) = (.list l, .list n, o, .list st)) : r = some (v, H4 l n T o st U) := by
  have h : spl4 r v T U = some (.list l, .list n, o, .list st, true) := by
    generalize spl4 r v T U = x at h1
    match x, h1 with
    | some (a, b, c, d, true), h1 => cases h1; rfl
    | some (a, b, c, d, false), h1 => cases h1
    | none, h1 => cases h1
  unfold spl4 at h
  split at h
  · rename_i w H
    split at h
    · rename_i a b X e
      split at h
      · rename_i c d Y e2
        simp only [Option.some.injEq, Prod.mk.injEq, Bool.and_eq_true] at h
        obtain ⟨rfl, rfl, rfl, rfl, ⟨⟨e6, h5⟩, h3⟩, e7⟩ := h
        obtain rfl := bV_eq e6
        obtain rfl := bH_eq e7
        have h5 := bH_eq h5
        have h3 := bH_eq h3
        have := List.take_append_drop 11 H
        rw [h5, e] at this
        have h4 := List.take_append_drop T.length X
        rw [h3, e2] at h4
        rw [← this, ← h4]
        rfl
      · cases h
    · cases h
  · cases h

/-! checks -/
noncomputable def dueChk (T : Hp) : Nat → Grid → Bool
  | _, [] => true
  | b, row :: G => match T[b]? with
    | some o => (match bO o (.list (bitsV row)) with
      | true => dueChk T (b + 2) G
      | false => false)
    | none => false
theorem dueChk_eq {T : Hp} : ∀ {G : Grid} {b : Nat}, dueChk T b G = true → ∀ (i : Nat) row, G[i]? = some row → T[b + 2 * i]? = some (.list (bitsV row))
  | [], b, _, i, row, h => by simp at h
  | r :: G, b, hc, i, row, h => by
    unfold dueChk at hc
    split at hc
    · rename_i o ho
      split at hc
      · rename_i e
        cases i with
        | zero =>
          simp at h
          subst h
          rw [show b + 2 * 0 = b by omega, ho, bO_eq e]
        | succ i =>
          have := dueChk_eq hc i row (by simpa using h)
          rw [show b + 2 * (i + 1) = b + 2 + 2 * i by omega]
          exact this
      · cases hc
    · cases hc
noncomputable def rowChk (T : Hp) : Nat → Grid → Bool
  | _, [] => true
  | b, row :: G => match T[b]? with
    | some o => (match bO o (.ba row) with
      | true => rowChk T (b + 1) G
      | false => false)
    | none => false
theorem rowChk_eq {T : Hp} : ∀ {G : Grid} {b : Nat}, rowChk T b G = true → ∀ (i : Nat) row, G[i]? = some row → T[b + i]? = some (.ba row)
  | [], b, _, i, row, h => by simp at h
  | r :: G, b, hc, i, row, h => by
    unfold rowChk at hc
    split at hc
    · rename_i o ho
      split at hc
      · rename_i e
        cases i with
        | zero =>
          simp at h
          subst h
          rw [Nat.add_zero, ho, bO_eq e]
        | succ i =>
          have := rowChk_eq hc i row (by simpa using h)
          rw [show b + (i + 1) = b + 1 + i by omega]
          exact this
      · cases hc
    · cases hc
noncomputable def spotChk (T : Hp) (p : Nat) : List V → List Cell → Bool
  | [], [] => true
  | .ref r :: rs, c :: cs => match Nat.ble (13 + p) r with
    | true => (match T[r - 13]? with
      | some o => (match bO o (.tup [.int (c.1 : Int), .int (c.2 : Int)]) with
        | true => spotChk T p rs cs
        | false => false)
      | none => false)
    | false => false
  | _, _ => false
theorem spotChk_eq {T : Hp} {p : Nat} : ∀ {rs : List V} {cs : List Cell}, spotChk T p rs cs = true → ∀ (t : Nat) (c : Cell), cs[t]? = some c → ∃ a, p ≤ a ∧ rs[t]? = some (.ref (13 + a)) ∧ T[a]? = some (.tup [.int (c.1 : Int), .int (c.2 : Int)])
  | [], [], _, t, c, h => by simp at h
  | [], d :: cs, hc, t, c, h => by cases hc
  | v :: rs, [], hc, t, c, h => by simp at h
  | v :: rs, d :: cs, hc, t, c, h => by
    cases v with
    | ref r =>
      unfold spotChk at hc
      split at hc
      · rename_i hle
        have hle := Nat.le_of_ble_eq_true hle
        split at hc
        · rename_i o ho
          split at hc
          · rename_i e
            cases t with
            | zero =>
              simp at h
              subst h
              refine ⟨r - 13, by omega, ?_, by rw [ho, bO_eq e]⟩
              rw [show 13 + (r - 13) = r by omega]
              rfl
            | succ t => simpa using spotChk_eq hc t c (by simpa using h)
          · cases hc
        · cases hc
      · cases hc
    | _ => simp [spotChk] at hc
noncomputable def spOk (r : Option SpSt) (refs : List V) (X : Hp) : Bool := match r with
  | some (a, b) => (match bL bV a refs with
    | true => bH b X
    | false => false)
  | none => false
theorem spOk_eq {r : Option SpSt} {refs : List V} {X : Hp} (h : spOk r refs X = true) : r = some (refs, X) := by
  unfold spOk at h
  split at h
  · split at h
    · rename_i e
      rw [bL_eq bV_eq e, bH_eq h]
    · cases h
  · cases h
theorem spots_at {n p : Nat} {G : Grid} {bU X : Hp} {refs : List V} (hlen : bU.length = p) (D : Dims G n) (hn : n < 100) (due : bU[7]? = some (.list ((List.range n).map fun j => .ref (22 + 2 * j)))) (rows : ∀ (i : Nat) row, G[i]? = some row → bU[9 + 2 * i]? = some (.list (bitsV row)))
    (h : spWhile (13 + p) G n 30 true ((n : Int) - 1) ([], []) = some (refs, X)) (l nn : List V) : F_law_spots [.ref 20, .int (n : Int)] (H2 l nn bU) = some (.ref (13 + p), H2 l nn (bU ++ .list refs :: X)) := by
  have hl : (H2 l nn bU).length = 13 + p := by rw [H2_len, hlen]
  have P : Pic (H2 l nn bU) 20 22 n G := {
    pic := H2_at due
    rows := fun i row hr => by
      rw [show 22 + 2 * i = 13 + (9 + 2 * i) by omega]
      exact H2_at (rows i row hr)
    dims := D
    sm := hn }
  have := spots_run P (by omega) (st' := (refs, X)) (by rw [hl]; exact h)
  rw [this, hl]
  unfold SH
  rw [H2_app]
noncomputable def dimsChk (n : Nat) (G : Grid) : Bool := match Nat.beq G.length n with
  | true => G.all fun r => Nat.beq r.length n
  | false => false
theorem dimsChk_eq {n : Nat} {G : Grid} (h : dimsChk n G = true) : Dims G n := by
  unfold dimsChk at h
  split at h
  · rename_i e
    exact ⟨Nat.eq_of_beq_eq_true e, fun r hr => Nat.eq_of_beq_eq_true (List.all_eq_true.mp h r hr)⟩
  · cases h
noncomputable def nodupBits : List Nat → Nat → Bool
  | [], _ => true
  | x :: xs, m => match m.testBit x with
    | true => false
    | false => nodupBits xs (m ||| (1 <<< x))
theorem nodupBits_ok : ∀ {xs : List Nat} {m : Nat}, nodupBits xs m = true → xs.Nodup ∧ ∀ x ∈ xs, m.testBit x = false
  | [], m, _ => ⟨List.nodup_nil, fun x hx => (List.not_mem_nil hx).elim⟩
  | x :: xs, m, h => by
    unfold nodupBits at h
    split at h
    · cases h
    · rename_i hx
      obtain ⟨h1, h2⟩ := nodupBits_ok h
      have h3 : ∀ y ∈ xs, m.testBit y = false ∧ y ≠ x := fun y hy => by
        have := h2 y hy
        rw [Nat.testBit_or, Bool.or_eq_false_iff] at this
        refine ⟨this.1, fun q => ?_⟩
        subst q
        have h4 := this.2
        rw [Nat.testBit_shiftLeft] at h4
        simp at h4
      refine ⟨List.nodup_cons.mpr ⟨fun hm => (h3 x hm).2 rfl, h1⟩, fun y hy => ?_⟩
      rcases List.mem_cons.mp hy with rfl | hy
      · exact hx
      · exact (h3 y hy).1
theorem cells_nodup {cs : List Cell} (h : nodupBits (cs.map fun c => c.1 * 64 + c.2) 0 = true) : cs.Nodup :=
  List.Pairwise.of_map (fun c : Cell => c.1 * 64 + c.2) (fun a b hne e => hne (by rw [e])) (nodupBits_ok h).1
end Mine

namespace Mine
open _root_.PySem _root_.PySem.W
noncomputable def bT11 : Hp := cat [[oR 0 11, oS 22 11, oL 1 2, oL 11 1127000526849057, oL 1 2, oL 11 2322169631604737, oL 1 2, oL 11 2322169632687105, oL 1 2, oL 11 2322169632687105, oL 1 2, oL 11 2322169632687105, oL 1 2, oL 11 2322169631604737, oL 1 2, oL 11 2322169666241569, oL 1 2, oL 11 2322168557862912, oL 1 2, oL 11 2322168557862913, oL 1 2, oL 11 2324438517352512, oL 1 2, oL 11 2324438517352513, oR 0 9, oR 8 11, oT 2 99, oF 1 45], rp 2 (oR 0 8), rp 8 (oL 5 32801), [oR 0 8], rp 8 (oL 5 32801), [oR 0 8], rp 8 (oL 5 32801), [oR 0 8], rp 8 (oL 5 32801), [oR 0 8], rp 8 (oL 5 32801), [oR 0 8], rp 8 (oL 5 32801), [oR 0 8], rp 8 (oL 5 32801), [oR 0 8], rp 8 (oL 5 32801)]
noncomputable def rT11 : List V := dF 36 475216047560004245327576476182714827957891466909687169105080785709021204790005777701657039735722484703555707
noncomputable def xT11 : Hp := cat [[oR 0 11, oL 2 298, oT 2 330, oT 2 298, oL 2 298, oT 2 329, oT 2 297, oL 2 298, oT 2 328, oT 2 296, oL 2 298, oT 2 327, oT 2 295, oL 2 298, oT 2 326, oT 2 294, oL 2 298, oT 2 325, oT 2 293, oL 2 298, oT 2 324, oT 2 292, oL 2 298, oT 2 323, oT 2 291, oL 2 298, oT 2 322, oT 2 290, oL 2 298, oT 2 321, oT 2 289, oL 2 298, oR 0 11], rp 10 (oL 2 232), [oT 2 265, oT 2 233, oL 2 232, oT 2 266, oT 2 234, oR 0 11, oL 2 166, oT 2 202, oT 2 170, oL 2 166, oT 2 201, oT 2 169], rp 9 (oL 2 166), [oR 0 11], rp 10 (oL 2 100), [oT 2 137, oT 2 105, oL 2 100, oT 2 138, oT 2 106, oR 0 11, oL 2 34, oT 2 74, oT 2 42, oL 2 34, oT 2 73, oT 2 41], rp 9 (oL 2 34)]
noncomputable def mT11 : Hp := cat [[oL 1 2, oL 11 2324438517352514, oR 0 11, oB 11 1127070354704450], rp 7 (oB 11 2322239494096962), [oB 11 2322168557862913, oB 11 2324438517352512, oB 11 2324438517352513, oP 222 11, oR 0 9, oT 2 352, oR 8 11]]
noncomputable def fT11 : Hp := cat [[oL 1 2, oL 11 2324438517352514, oR 0 11, oB 11 1127000526849057, oB 11 2322169631604737], rp 3 (oB 11 2322169632687105), [oB 11 2322169631604737, oB 11 2322169666241569, oB 11 2322168557862912, oB 11 2322168557862913, oB 11 2324438517352512, oB 11 2324438517352513, oP 222 11, oR 0 9, oT 2 352, oR 8 11, oT 2 0, oT 2 96, oM, oG 3 250853613, oT 2 0, oG 1 241, oR 0 8, oT 8 1108378657, oT 8 1073741825], rp 3 (oT 8 1074824193), [oT 8 1073741825, oT 8 1108378657, oT 8 0]]
noncomputable def gT11 : Grid := [dN 11 1127000526849057, dN 11 2322169631604737, dN 11 2322169632687105, dN 11 2322169632687105, dN 11 2322169632687105, dN 11 2322169631604737, dN 11 2322169666241569, dN 11 2322168557862912, dN 11 2322168557862913, dN 11 2324438517352512, dN 11 2324438517352513]
noncomputable def bU11 : Hp := sizesT ++ bT11
noncomputable def sU11 : Hp := bU11 ++ .list rT11 :: xT11
noncomputable def cT11 : List Cell := (allCells (decide ((-3 : Int) < 1)) 11 (incOf (-3)) ((11 - 1) / 2)).filter (fun c => g2 gT11 c == some 2)
theorem blank11_a (l nn : List V) : one2 (spl2 (F_law_blank [.int ((11 : Nat) : Int)] (H2 l nn sizesT)) (.ref 20) bU11) = (.list l, .list nn) := by kernel_rfl
theorem blank11 (l nn : List V) : F_law_blank [.int ((11 : Nat) : Int)] (H2 l nn sizesT) = some (.ref 20, H2 l nn bU11) := spl2_eq (blank11_a l nn)
theorem mm11_a (l nn st : List V) (len : Int) : one4 (spl4 (F_make_matrix [.int ((11 : Nat) : Int), .int ((11 : Nat) : Int)] (H4 l nn sU11 (.rng 0 len 1) st [])) (.ref 233) sU11 mT11) = (.list l, .list nn, .rng 0 len 1, .list st) := by kernel_rfl
theorem mm11 (l nn st : List V) (len : Int) : F_make_matrix [.int ((11 : Nat) : Int), .int ((11 : Nat) : Int)] (H4 l nn sU11 (.rng 0 len 1) st []) = some (.ref 233, H4 l nn sU11 (.rng 0 len 1) st mT11) := spl4_eq (mm11_a l nn st len)
theorem fp11_a (l nn st : List V) (len : Int) : one4 (spl4 (F_add_finder_patterns [.ref 233, .int ((11 : Nat) : Int), .int ((11 : Nat) : Int)] (H4 l nn sU11 (.rng 0 len 1) st mT11)) .none sU11 fT11) = (.list l, .list nn, .rng 0 len 1, .list st) := by kernel_rfl
theorem fp11 (l nn st : List V) (len : Int) : F_add_finder_patterns [.ref 233, .int ((11 : Nat) : Int), .int ((11 : Nat) : Int)] (H4 l nn sU11 (.rng 0 len 1) st mT11) = some (.none, H4 l nn sU11 (.rng 0 len 1) st fT11) := spl4_eq (fp11_a l nn st len)
theorem bUlen11 : bU11.length = 107 := by kernel_rfl
theorem sUlen11 : sU11.length = 204 := by kernel_rfl
theorem dims11 : Dims gT11 11 := dimsChk_eq (by kernel_rfl)
theorem bdue11 : bU11[7]? = some (.list ((List.range 11).map fun j => .ref (22 + 2 * j))) := by kernel_rfl
theorem brows11 : ∀ (i : Nat) row, gT11[i]? = some row → bU11[9 + 2 * i]? = some (.list (bitsV row)) := dueChk_eq (by kernel_rfl)
theorem spw11 : spWhile (13 + 107) gT11 11 30 true (((11 : Nat) : Int) - 1) ([], []) = some (rT11, xT11) := spOk_eq (by kernel_rfl)
theorem spots11 (l nn : List V) : F_law_spots [.ref 20, .int ((11 : Nat) : Int)] (H2 l nn bU11) = some (.ref (13 + 107), H2 l nn sU11) := spots_at bUlen11 dims11 (by decide) bdue11 brows11 spw11 l nn
theorem mk11 : 18 + sU11.length + 11 = 233 := by rw [sUlen11]
theorem tup11 : fT11[3 + 11]? = some (.tup (rowRefs (18 + 204) 11)) := by kernel_rfl
theorem rows11 : ∀ (i : Nat) row, gT11[i]? = some row → fT11[3 + i]? = some (.ba row) := rowChk_eq (by kernel_rfl)
theorem spot11 : ∀ (t : Nat) (c : Cell), cT11[t]? = some c → ∃ a, 107 ≤ a ∧ rT11[t]? = some (.ref (13 + a)) ∧ sU11[a]? = some (.tup [.int (c.1 : Int), .int (c.2 : Int)]) := spotChk_eq (by kernel_rfl)
theorem nod11 : (allCells (decide ((-3 : Int) < 1)) 11 (incOf (-3)) ((11 - 1) / 2)).Nodup := cells_nodup (by kernel_rfl)
theorem clen11 : cT11.length = 36 := by kernel_rfl
theorem rlen11 : rT11.length = 36 := by kernel_rfl
theorem ok11 : SizeOk 0 11 36 (-3) bU11 sU11 mT11 fT11 107 rT11 where
  qs := by decide
  row := rfl
  blank := blank11
  spots := spots11
  rf := by
    unfold sU11
    rw [List.getElem?_append_right (by rw [bUlen11]; exact Nat.le_refl _), bUlen11]
    rfl
  mlen := rlen11
  sm := by decide
  mm := fun l nn st len => by rw [mk11]; exact mm11 l nn st len
  fp := fun l nn st len => by rw [mk11]; exact fp11 l nn st len
theorem okB11 : SizeOk2 11 36 107 (-3) sU11 fT11 gT11 cT11 rT11 where
  n8 := by decide
  odd := by decide
  sm := by decide
  mm := by decide
  dims := dims11
  rowsB := rows11
  tupB := by rw [sUlen11]; exact tup11
  due := get_app bdue11 _
  dueRows := fun i row h => get_app (brows11 i row h) _
  cellsEq := rfl
  nodup := nod11
  clen := clen11
  pbig := by decide
  spotAt := spot11
end Mine

namespace Mine
open _root_.PySem _root_.PySem.W
noncomputable def bT13 : Hp := cat [[oR 0 13, oS 22 13, oL 1 2, oL 13 1154048505133696033, oL 1 2, oL 13 2380222772883226625, oL 1 2, oL 13 2380222772884308993, oL 1 2, oL 13 2380222772884308993, oL 1 2, oL 13 2380222772884308993, oL 1 2, oL 13 2380222772883226625, oL 1 2, oL 13 2380222772917863457, oL 1 2, oL 13 2380222771809484800, oL 1 2, oL 13 2380222771809484801, oL 1 2, oL 13 2380225041768974400, oL 1 2, oL 13 2380225041768974401, oL 1 2, oL 13 2380225041768974400, oL 1 2, oL 13 2380225041768974401, oR 0 9, oR 8 13, oT 2 99, oF 1 49], rp 2 (oR 0 8), rp 8 (oL 5 32801), [oR 0 8], rp 8 (oL 5 32801), [oR 0 8], rp 8 (oL 5 32801), [oR 0 8], rp 8 (oL 5 32801), [oR 0 8], rp 8 (oL 5 32801), [oR 0 8], rp 8 (oL 5 32801), [oR 0 8], rp 8 (oL 5 32801), [oR 0 8], rp 8 (oL 5 32801)]
noncomputable def rT13 : List V := dF 80 1877205896590521018791927474372560787214586675880643468615912003046226777089046898297485775573770894961405575422454297980409423695525064086272695327576552370432300094719561775288895946412501344433282508851298617089604681149437484640225067135
noncomputable def xT13 : Hp := cat [[oR 0 13, oL 2 364, oT 2 396, oT 2 364, oL 2 364, oT 2 395, oT 2 363, oL 2 364, oT 2 394, oT 2 362, oL 2 364, oT 2 393, oT 2 361, oL 2 364, oT 2 392, oT 2 360, oL 2 364, oT 2 391, oT 2 359, oL 2 364, oT 2 390, oT 2 358, oL 2 364, oT 2 389, oT 2 357, oL 2 364, oT 2 388, oT 2 356, oL 2 364, oT 2 387, oT 2 355, oL 2 364, oT 2 386, oT 2 354, oL 2 364, oT 2 385, oT 2 353, oL 2 364, oR 0 13], rp 2 (oL 2 298), [oT 2 321, oT 2 289, oL 2 298, oT 2 322, oT 2 290, oL 2 298, oT 2 323, oT 2 291, oL 2 298, oT 2 324, oT 2 292, oL 2 298, oT 2 325, oT 2 293, oL 2 298, oT 2 326, oT 2 294, oL 2 298, oT 2 327, oT 2 295, oL 2 298, oT 2 328, oT 2 296, oL 2 298, oT 2 329, oT 2 297, oL 2 298, oT 2 330, oT 2 298, oL 2 298, oT 2 331, oT 2 299, oL 2 298, oT 2 332, oT 2 300, oR 0 13, oL 2 232, oT 2 268, oT 2 236, oL 2 232, oT 2 267, oT 2 235, oL 2 232, oT 2 266, oT 2 234, oL 2 232, oT 2 265, oT 2 233], rp 9 (oL 2 232), [oR 0 13], rp 10 (oL 2 166), [oT 2 201, oT 2 169, oL 2 166, oT 2 202, oT 2 170, oL 2 166, oT 2 203, oT 2 171, oL 2 166, oT 2 204, oT 2 172, oR 0 13, oL 2 100, oT 2 140, oT 2 108, oL 2 100, oT 2 139, oT 2 107, oL 2 100, oT 2 138, oT 2 106, oL 2 100, oT 2 137, oT 2 105], rp 9 (oL 2 100), [oR 0 13], rp 10 (oL 2 34), [oT 2 73, oT 2 41, oL 2 34, oT 2 74, oT 2 42, oL 2 34, oT 2 75, oT 2 43, oL 2 34, oT 2 76, oT 2 44]]
noncomputable def mT13 : Hp := cat [[oL 1 2, oL 13 2380225041768974402, oR 0 13, oB 13 1154048574961551426], rp 7 (oB 13 2380222842745718850), [oB 13 2380222771809484801, oB 13 2380225041768974400, oB 13 2380225041768974401, oB 13 2380225041768974400, oB 13 2380225041768974401, oP 294 13, oR 0 9, oT 2 416, oR 8 13]]
noncomputable def fT13 : Hp := cat [[oL 1 2, oL 13 2380225041768974402, oR 0 13, oB 13 1154048505133696033, oB 13 2380222772883226625], rp 3 (oB 13 2380222772884308993), [oB 13 2380222772883226625, oB 13 2380222772917863457, oB 13 2380222771809484800, oB 13 2380222771809484801, oB 13 2380225041768974400, oB 13 2380225041768974401, oB 13 2380225041768974400, oB 13 2380225041768974401, oP 294 13, oR 0 9, oT 2 416, oR 8 13, oT 2 0, oT 2 160, oM, oG 3 328524087, oT 2 0, oG 1 315, oR 0 8, oT 8 1108378657, oT 8 1073741825], rp 3 (oT 8 1074824193), [oT 8 1073741825, oT 8 1108378657, oT 8 0]]
noncomputable def gT13 : Grid := [dN 13 1154048505133696033, dN 13 2380222772883226625, dN 13 2380222772884308993, dN 13 2380222772884308993, dN 13 2380222772884308993, dN 13 2380222772883226625, dN 13 2380222772917863457, dN 13 2380222771809484800, dN 13 2380222771809484801, dN 13 2380225041768974400, dN 13 2380225041768974401, dN 13 2380225041768974400, dN 13 2380225041768974401]
noncomputable def bU13 : Hp := sizesT ++ bT13
noncomputable def sU13 : Hp := bU13 ++ .list rT13 :: xT13
noncomputable def cT13 : List Cell := (allCells (decide ((-2 : Int) < 1)) 13 (incOf (-2)) ((13 - 1) / 2)).filter (fun c => g2 gT13 c == some 2)
theorem blank13_a (l nn : List V) : one2 (spl2 (F_law_blank [.int ((13 : Nat) : Int)] (H2 l nn sizesT)) (.ref 20) bU13) = (.list l, .list nn) := by kernel_rfl
theorem blank13 (l nn : List V) : F_law_blank [.int ((13 : Nat) : Int)] (H2 l nn sizesT) = some (.ref 20, H2 l nn bU13) := spl2_eq (blank13_a l nn)
theorem mm13_a (l nn st : List V) (len : Int) : one4 (spl4 (F_make_matrix [.int ((13 : Nat) : Int), .int ((13 : Nat) : Int)] (H4 l nn sU13 (.rng 0 len 1) st [])) (.ref 307) sU13 mT13) = (.list l, .list nn, .rng 0 len 1, .list st) := by kernel_rfl
theorem mm13 (l nn st : List V) (len : Int) : F_make_matrix [.int ((13 : Nat) : Int), .int ((13 : Nat) : Int)] (H4 l nn sU13 (.rng 0 len 1) st []) = some (.ref 307, H4 l nn sU13 (.rng 0 len 1) st mT13) := spl4_eq (mm13_a l nn st len)
theorem fp13_a (l nn st : List V) (len : Int) : one4 (spl4 (F_add_finder_patterns [.ref 307, .int ((13 : Nat) : Int), .int ((13 : Nat) : Int)] (H4 l nn sU13 (.rng 0 len 1) st mT13)) .none sU13 fT13) = (.list l, .list nn, .rng 0 len 1, .list st) := by kernel_rfl
theorem fp13 (l nn st : List V) (len : Int) : F_add_finder_patterns [.ref 307, .int ((13 : Nat) : Int), .int ((13 : Nat) : Int)] (H4 l nn sU13 (.rng 0 len 1) st mT13) = some (.none, H4 l nn sU13 (.rng 0 len 1) st fT13) := spl4_eq (fp13_a l nn st len)
theorem bUlen13 : bU13.length = 111 := by kernel_rfl
theorem sUlen13 : sU13.length = 276 := by kernel_rfl
theorem dims13 : Dims gT13 13 := dimsChk_eq (by kernel_rfl)
theorem bdue13 : bU13[7]? = some (.list ((List.range 13).map fun j => .ref (22 + 2 * j))) := by kernel_rfl
theorem brows13 : ∀ (i : Nat) row, gT13[i]? = some row → bU13[9 + 2 * i]? = some (.list (bitsV row)) := dueChk_eq (by kernel_rfl)
theorem spw13 : spWhile (13 + 111) gT13 13 30 true (((13 : Nat) : Int) - 1) ([], []) = some (rT13, xT13) := spOk_eq (by kernel_rfl)
theorem spots13 (l nn : List V) : F_law_spots [.ref 20, .int ((13 : Nat) : Int)] (H2 l nn bU13) = some (.ref (13 + 111), H2 l nn sU13) := spots_at bUlen13 dims13 (by decide) bdue13 brows13 spw13 l nn
theorem mk13 : 18 + sU13.length + 13 = 307 := by rw [sUlen13]
theorem tup13 : fT13[3 + 13]? = some (.tup (rowRefs (18 + 276) 13)) := by kernel_rfl
theorem rows13 : ∀ (i : Nat) row, gT13[i]? = some row → fT13[3 + i]? = some (.ba row) := rowChk_eq (by kernel_rfl)
theorem spot13 : ∀ (t : Nat) (c : Cell), cT13[t]? = some c → ∃ a, 111 ≤ a ∧ rT13[t]? = some (.ref (13 + a)) ∧ sU13[a]? = some (.tup [.int (c.1 : Int), .int (c.2 : Int)]) := spotChk_eq (by kernel_rfl)
theorem nod13 : (allCells (decide ((-2 : Int) < 1)) 13 (incOf (-2)) ((13 - 1) / 2)).Nodup := cells_nodup (by kernel_rfl)
theorem clen13 : cT13.length = 80 := by kernel_rfl
theorem rlen13 : rT13.length = 80 := by kernel_rfl
theorem ok13 : SizeOk 1 13 80 (-2) bU13 sU13 mT13 fT13 111 rT13 where
  qs := by decide
  row := rfl
  blank := blank13
  spots := spots13
  rf := by
    unfold sU13
    rw [List.getElem?_append_right (by rw [bUlen13]; exact Nat.le_refl _), bUlen13]
    rfl
  mlen := rlen13
  sm := by decide
  mm := fun l nn st len => by rw [mk13]; exact mm13 l nn st len
  fp := fun l nn st len => by rw [mk13]; exact fp13 l nn st len
theorem okB13 : SizeOk2 13 80 111 (-2) sU13 fT13 gT13 cT13 rT13 where
  n8 := by decide
  odd := by decide
  sm := by decide
  mm := by decide
  dims := dims13
  rowsB := rows13
  tupB := by rw [sUlen13]; exact tup13
  due := get_app bdue13 _
  dueRows := fun i row h => get_app (brows13 i row h) _
  cellsEq := rfl
  nodup := nod13
  clen := clen13
  pbig := by decide
  spotAt := spot13
end Mine

namespace Mine
open _root_.PySem _root_.PySem.W
noncomputable def bT15 : Hp := cat [[oR 0 15, oS 22 15, oL 1 2, oL 15 1181745669222544999457, oL 1 2, oL 15 2437350440502544039937, oL 1 2, oL 15 2437350440502545122305, oL 1 2, oL 15 2437350440502545122305, oL 1 2, oL 15 2437350440502545122305, oL 1 2, oL 15 2437350440502544039937, oL 1 2, oL 15 2437350440502578676769, oL 1 2, oL 15 2437350440501470298112, oL 1 2, oL 15 2437350440501470298113, oL 1 2, oL 15 2437350442771429787712, oL 1 2, oL 15 2437350442771429787713, oL 1 2, oL 15 2437350442771429787712, oL 1 2, oL 15 2437350442771429787713, oL 1 2, oL 15 2437350442771429787712, oL 1 2, oL 15 2437350442771429787713, oR 0 9, oR 8 15, oT 2 99, oF 1 53], rp 2 (oR 0 8), rp 8 (oL 5 32801), [oR 0 8], rp 8 (oL 5 32801), [oR 0 8], rp 8 (oL 5 32801), [oR 0 8], rp 8 (oL 5 32801), [oR 0 8], rp 8 (oL 5 32801), [oR 0 8], rp 8 (oL 5 32801), [oR 0 8], rp 8 (oL 5 32801), [oR 0 8], rp 8 (oL 5 32801)]
noncomputable def rT15 : List V := dF 132 8121272764471531120219117643229157521952490489917038868449236657251893278488393268670942035385079372533868355106099225534907686201317930722137947485624695840985748477221494291191591201345763745280939858184136933832107400707313889883712034514551035077684043951016607392126420331714181386003205925761186931507328873214008961507683664946045734653239201515174194798979059913074126731239117101004361859
noncomputable def xT15 : Hp := cat [[oR 0 15, oL 2 430, oT 2 462, oT 2 430, oL 2 430, oT 2 461, oT 2 429, oL 2 430, oT 2 460, oT 2 428, oL 2 430, oT 2 459, oT 2 427, oL 2 430, oT 2 458, oT 2 426, oL 2 430, oT 2 457, oT 2 425, oL 2 430, oT 2 456, oT 2 424, oL 2 430, oT 2 455, oT 2 423, oL 2 430, oT 2 454, oT 2 422, oL 2 430, oT 2 453, oT 2 421, oL 2 430, oT 2 452, oT 2 420, oL 2 430, oT 2 451, oT 2 419, oL 2 430, oT 2 450, oT 2 418, oL 2 430, oT 2 449, oT 2 417, oL 2 430, oR 0 15], rp 2 (oL 2 364), [oT 2 385, oT 2 353, oL 2 364, oT 2 386, oT 2 354, oL 2 364, oT 2 387, oT 2 355, oL 2 364, oT 2 388, oT 2 356, oL 2 364, oT 2 389, oT 2 357, oL 2 364, oT 2 390, oT 2 358, oL 2 364, oT 2 391, oT 2 359, oL 2 364, oT 2 392, oT 2 360, oL 2 364, oT 2 393, oT 2 361, oL 2 364, oT 2 394, oT 2 362, oL 2 364, oT 2 395, oT 2 363, oL 2 364, oT 2 396, oT 2 364, oL 2 364, oT 2 397, oT 2 365, oL 2 364, oT 2 398, oT 2 366, oR 0 15, oL 2 298, oT 2 334, oT 2 302, oL 2 298, oT 2 333, oT 2 301, oL 2 298, oT 2 332, oT 2 300, oL 2 298, oT 2 331, oT 2 299, oL 2 298, oT 2 330, oT 2 298, oL 2 298, oT 2 329, oT 2 297, oL 2 298, oT 2 328, oT 2 296, oL 2 298, oT 2 327, oT 2 295, oL 2 298, oT 2 326, oT 2 294, oL 2 298, oT 2 325, oT 2 293, oL 2 298, oT 2 324, oT 2 292, oL 2 298, oT 2 323, oT 2 291, oL 2 298, oT 2 322, oT 2 290, oL 2 298, oT 2 321, oT 2 289, oL 2 298, oR 0 15], rp 10 (oL 2 232), [oT 2 265, oT 2 233, oL 2 232, oT 2 266, oT 2 234, oL 2 232, oT 2 267, oT 2 235, oL 2 232, oT 2 268, oT 2 236, oL 2 232, oT 2 269, oT 2 237, oL 2 232, oT 2 270, oT 2 238, oR 0 15, oL 2 166, oT 2 206, oT 2 174, oL 2 166, oT 2 205, oT 2 173, oL 2 166, oT 2 204, oT 2 172, oL 2 166, oT 2 203, oT 2 171, oL 2 166, oT 2 202, oT 2 170, oL 2 166, oT 2 201, oT 2 169], rp 9 (oL 2 166), [oR 0 15], rp 10 (oL 2 100), [oT 2 137, oT 2 105, oL 2 100, oT 2 138, oT 2 106, oL 2 100, oT 2 139, oT 2 107, oL 2 100, oT 2 140, oT 2 108, oL 2 100, oT 2 141, oT 2 109, oL 2 100, oT 2 142, oT 2 110, oR 0 15, oL 2 34, oT 2 78, oT 2 46, oL 2 34, oT 2 77, oT 2 45, oL 2 34, oT 2 76, oT 2 44, oL 2 34, oT 2 75, oT 2 43, oL 2 34, oT 2 74, oT 2 42, oL 2 34, oT 2 73, oT 2 41], rp 9 (oL 2 34)]
noncomputable def mT15 : Hp := cat [[oL 1 2, oL 15 2437350442771429787714, oR 0 15, oB 15 1181745669292372854850], rp 7 (oB 15 2437350440572406532162), [oB 15 2437350440501470298113, oB 15 2437350442771429787712, oB 15 2437350442771429787713, oB 15 2437350442771429787712, oB 15 2437350442771429787713, oB 15 2437350442771429787712, oB 15 2437350442771429787713, oP 378 15, oR 0 9, oT 2 480, oR 8 15]]
noncomputable def fT15 : Hp := cat [[oL 1 2, oL 15 2437350442771429787714, oR 0 15, oB 15 1181745669222544999457, oB 15 2437350440502544039937], rp 3 (oB 15 2437350440502545122305), [oB 15 2437350440502544039937, oB 15 2437350440502578676769, oB 15 2437350440501470298112, oB 15 2437350440501470298113, oB 15 2437350442771429787712, oB 15 2437350442771429787713, oB 15 2437350442771429787712, oB 15 2437350442771429787713, oB 15 2437350442771429787712, oB 15 2437350442771429787713, oP 378 15, oR 0 9, oT 2 480, oR 8 15, oT 2 0, oT 2 224, oM, oG 3 418789773, oT 2 0, oG 1 401, oR 0 8, oT 8 1108378657, oT 8 1073741825], rp 3 (oT 8 1074824193), [oT 8 1073741825, oT 8 1108378657, oT 8 0]]
noncomputable def gT15 : Grid := [dN 15 1181745669222544999457, dN 15 2437350440502544039937, dN 15 2437350440502545122305, dN 15 2437350440502545122305, dN 15 2437350440502545122305, dN 15 2437350440502544039937, dN 15 2437350440502578676769, dN 15 2437350440501470298112, dN 15 2437350440501470298113, dN 15 2437350442771429787712, dN 15 2437350442771429787713, dN 15 2437350442771429787712, dN 15 2437350442771429787713, dN 15 2437350442771429787712, dN 15 2437350442771429787713]
noncomputable def bU15 : Hp := sizesT ++ bT15
noncomputable def sU15 : Hp := bU15 ++ .list rT15 :: xT15
noncomputable def cT15 : List Cell := (allCells (decide ((-1 : Int) < 1)) 15 (incOf (-1)) ((15 - 1) / 2)).filter (fun c => g2 gT15 c == some 2)
theorem blank15_a (l nn : List V) : one2 (spl2 (F_law_blank [.int ((15 : Nat) : Int)] (H2 l nn sizesT)) (.ref 20) bU15) = (.list l, .list nn) := by kernel_rfl
theorem blank15 (l nn : List V) : F_law_blank [.int ((15 : Nat) : Int)] (H2 l nn sizesT) = some (.ref 20, H2 l nn bU15) := spl2_eq (blank15_a l nn)
theorem mm15_a (l nn st : List V) (len : Int) : one4 (spl4 (F_make_matrix [.int ((15 : Nat) : Int), .int ((15 : Nat) : Int)] (H4 l nn sU15 (.rng 0 len 1) st [])) (.ref 393) sU15 mT15) = (.list l, .list nn, .rng 0 len 1, .list st) := by kernel_rfl
theorem mm15 (l nn st : List V) (len : Int) : F_make_matrix [.int ((15 : Nat) : Int), .int ((15 : Nat) : Int)] (H4 l nn sU15 (.rng 0 len 1) st []) = some (.ref 393, H4 l nn sU15 (.rng 0 len 1) st mT15) := spl4_eq (mm15_a l nn st len)
theorem fp15_a (l nn st : List V) (len : Int) : one4 (spl4 (F_add_finder_patterns [.ref 393, .int ((15 : Nat) : Int), .int ((15 : Nat) : Int)] (H4 l nn sU15 (.rng 0 len 1) st mT15)) .none sU15 fT15) = (.list l, .list nn, .rng 0 len 1, .list st) := by kernel_rfl
theorem fp15 (l nn st : List V) (len : Int) : F_add_finder_patterns [.ref 393, .int ((15 : Nat) : Int), .int ((15 : Nat) : Int)] (H4 l nn sU15 (.rng 0 len 1) st mT15) = some (.none, H4 l nn sU15 (.rng 0 len 1) st fT15) := spl4_eq (fp15_a l nn st len)
theorem bUlen15 : bU15.length = 115 := by kernel_rfl
theorem sUlen15 : sU15.length = 360 := by kernel_rfl
theorem dims15 : Dims gT15 15 := dimsChk_eq (by kernel_rfl)
theorem bdue15 : bU15[7]? = some (.list ((List.range 15).map fun j => .ref (22 + 2 * j))) := by kernel_rfl
theorem brows15 : ∀ (i : Nat) row, gT15[i]? = some row → bU15[9 + 2 * i]? = some (.list (bitsV row)) := dueChk_eq (by kernel_rfl)
theorem spw15 : spWhile (13 + 115) gT15 15 30 true (((15 : Nat) : Int) - 1) ([], []) = some (rT15, xT15) := spOk_eq (by kernel_rfl)
theorem spots15 (l nn : List V) : F_law_spots [.ref 20, .int ((15 : Nat) : Int)] (H2 l nn bU15) = some (.ref (13 + 115), H2 l nn sU15) := spots_at bUlen15 dims15 (by decide) bdue15 brows15 spw15 l nn
theorem mk15 : 18 + sU15.length + 15 = 393 := by rw [sUlen15]
theorem tup15 : fT15[3 + 15]? = some (.tup (rowRefs (18 + 360) 15)) := by kernel_rfl
theorem rows15 : ∀ (i : Nat) row, gT15[i]? = some row → fT15[3 + i]? = some (.ba row) := rowChk_eq (by kernel_rfl)
theorem spot15 : ∀ (t : Nat) (c : Cell), cT15[t]? = some c → ∃ a, 115 ≤ a ∧ rT15[t]? = some (.ref (13 + a)) ∧ sU15[a]? = some (.tup [.int (c.1 : Int), .int (c.2 : Int)]) := spotChk_eq (by kernel_rfl)
theorem nod15 : (allCells (decide ((-1 : Int) < 1)) 15 (incOf (-1)) ((15 - 1) / 2)).Nodup := cells_nodup (by kernel_rfl)
theorem clen15 : cT15.length = 132 := by kernel_rfl
theorem rlen15 : rT15.length = 132 := by kernel_rfl
theorem ok15 : SizeOk 2 15 132 (-1) bU15 sU15 mT15 fT15 115 rT15 where
  qs := by decide
  row := rfl
  blank := blank15
  spots := spots15
  rf := by
    unfold sU15
    rw [List.getElem?_append_right (by rw [bUlen15]; exact Nat.le_refl _), bUlen15]
    rfl
  mlen := rlen15
  sm := by decide
  mm := fun l nn st len => by rw [mk15]; exact mm15 l nn st len
  fp := fun l nn st len => by rw [mk15]; exact fp15 l nn st len
theorem okB15 : SizeOk2 15 132 115 (-1) sU15 fT15 gT15 cT15 rT15 where
  n8 := by decide
  odd := by decide
  sm := by decide
  mm := by decide
  dims := dims15
  rowsB := rows15
  tupB := by rw [sUlen15]; exact tup15
  due := get_app bdue15 _
  dueRows := fun i row h => get_app (brows15 i row h) _
  cellsEq := rfl
  nodup := nod15
  clen := clen15
  pbig := by decide
  spotAt := spot15
end Mine

namespace Mine
open _root_.PySem _root_.PySem.W
noncomputable def bT17 : Hp := cat [[oR 0 17, oS 22 17, oL 1 2, oL 17 1210107565283851719705633, oL 1 2, oL 17 2495846853395675216871425, oL 1 2, oL 17 2495846853395675217953793, oL 1 2, oL 17 2495846853395675217953793, oL 1 2, oL 17 2495846853395675217953793, oL 1 2, oL 17 2495846853395675216871425, oL 1 2, oL 17 2495846853395675251508257, oL 1 2, oL 17 2495846853395674143129600, oL 1 2, oL 17 2495846853395674143129601, oL 1 2, oL 17 2495846853397944102619200, oL 1 2, oL 17 2495846853397944102619201, oL 1 2, oL 17 2495846853397944102619200, oL 1 2, oL 17 2495846853397944102619201, oL 1 2, oL 17 2495846853397944102619200, oL 1 2, oL 17 2495846853397944102619201, oL 1 2, oL 17 2495846853397944102619200, oL 1 2, oL 17 2495846853397944102619201, oR 0 9, oR 8 17, oT 2 99, oF 1 57], rp 2 (oR 0 8), rp 8 (oL 5 32801), [oR 0 8], rp 8 (oL 5 32801), [oR 0 8], rp 8 (oL 5 32801), [oR 0 8], rp 8 (oL 5 32801), [oR 0 8], rp 8 (oL 5 32801), [oR 0 8], rp 8 (oL 5 32801), [oR 0 8], rp 8 (oL 5 32801), [oR 0 8], rp 8 (oL 5 32801)]
noncomputable def rT17 : List V := dF 192 43447119274798286450324091009402940893843317276529928280888523975406516248325787364330250013561553403761523840792876778452258544141092114355516175271649500989276801684545834875451604958119138439966010448683676546845295479833032166189019844940847579882917023896752711028147045093538324076163425264539465905812041457909268266787789944001248713278838916673932333189610572308964245096804181259691031456167713764007572957280211797474270745129061784189447732820087480023373138257652521036979923954103765724401508791345767237362703397230149267406648954291888072369577987240340100358279
noncomputable def xT17 : Hp := cat [[oR 0 17, oL 2 496, oT 2 528, oT 2 496, oL 2 496, oT 2 527, oT 2 495, oL 2 496, oT 2 526, oT 2 494, oL 2 496, oT 2 525, oT 2 493, oL 2 496, oT 2 524, oT 2 492, oL 2 496, oT 2 523, oT 2 491, oL 2 496, oT 2 522, oT 2 490, oL 2 496, oT 2 521, oT 2 489, oL 2 496, oT 2 520, oT 2 488, oL 2 496, oT 2 519, oT 2 487, oL 2 496, oT 2 518, oT 2 486, oL 2 496, oT 2 517, oT 2 485, oL 2 496, oT 2 516, oT 2 484, oL 2 496, oT 2 515, oT 2 483, oL 2 496, oT 2 514, oT 2 482, oL 2 496, oT 2 513, oT 2 481, oL 2 496, oR 0 17], rp 2 (oL 2 430), [oT 2 449, oT 2 417, oL 2 430, oT 2 450, oT 2 418, oL 2 430, oT 2 451, oT 2 419, oL 2 430, oT 2 452, oT 2 420, oL 2 430, oT 2 453, oT 2 421, oL 2 430, oT 2 454, oT 2 422, oL 2 430, oT 2 455, oT 2 423, oL 2 430, oT 2 456, oT 2 424, oL 2 430, oT 2 457, oT 2 425, oL 2 430, oT 2 458, oT 2 426, oL 2 430, oT 2 459, oT 2 427, oL 2 430, oT 2 460, oT 2 428, oL 2 430, oT 2 461, oT 2 429, oL 2 430, oT 2 462, oT 2 430, oL 2 430, oT 2 463, oT 2 431, oL 2 430, oT 2 464, oT 2 432, oR 0 17, oL 2 364, oT 2 400, oT 2 368, oL 2 364, oT 2 399, oT 2 367, oL 2 364, oT 2 398, oT 2 366, oL 2 364, oT 2 397, oT 2 365, oL 2 364, oT 2 396, oT 2 364, oL 2 364, oT 2 395, oT 2 363, oL 2 364, oT 2 394, oT 2 362, oL 2 364, oT 2 393, oT 2 361, oL 2 364, oT 2 392, oT 2 360, oL 2 364, oT 2 391, oT 2 359, oL 2 364, oT 2 390, oT 2 358, oL 2 364, oT 2 389, oT 2 357, oL 2 364, oT 2 388, oT 2 356, oL 2 364, oT 2 387, oT 2 355, oL 2 364, oT 2 386, oT 2 354, oL 2 364, oT 2 385, oT 2 353, oL 2 364, oR 0 17], rp 2 (oL 2 298), [oT 2 321, oT 2 289, oL 2 298, oT 2 322, oT 2 290, oL 2 298, oT 2 323, oT 2 291, oL 2 298, oT 2 324, oT 2 292, oL 2 298, oT 2 325, oT 2 293, oL 2 298, oT 2 326, oT 2 294, oL 2 298, oT 2 327, oT 2 295, oL 2 298, oT 2 328, oT 2 296, oL 2 298, oT 2 329, oT 2 297, oL 2 298, oT 2 330, oT 2 298, oL 2 298, oT 2 331, oT 2 299, oL 2 298, oT 2 332, oT 2 300, oL 2 298, oT 2 333, oT 2 301, oL 2 298, oT 2 334, oT 2 302, oL 2 298, oT 2 335, oT 2 303, oL 2 298, oT 2 336, oT 2 304, oR 0 17, oL 2 232, oT 2 272, oT 2 240, oL 2 232, oT 2 271, oT 2 239, oL 2 232, oT 2 270, oT 2 238, oL 2 232, oT 2 269, oT 2 237, oL 2 232, oT 2 268, oT 2 236, oL 2 232, oT 2 267, oT 2 235, oL 2 232, oT 2 266, oT 2 234, oL 2 232, oT 2 265, oT 2 233], rp 9 (oL 2 232), [oR 0 17], rp 10 (oL 2 166), [oT 2 201, oT 2 169, oL 2 166, oT 2 202, oT 2 170, oL 2 166, oT 2 203, oT 2 171, oL 2 166, oT 2 204, oT 2 172, oL 2 166, oT 2 205, oT 2 173, oL 2 166, oT 2 206, oT 2 174, oL 2 166, oT 2 207, oT 2 175, oL 2 166, oT 2 208, oT 2 176, oR 0 17, oL 2 100, oT 2 144, oT 2 112, oL 2 100, oT 2 143, oT 2 111, oL 2 100, oT 2 142, oT 2 110, oL 2 100, oT 2 141, oT 2 109, oL 2 100, oT 2 140, oT 2 108, oL 2 100, oT 2 139, oT 2 107, oL 2 100, oT 2 138, oT 2 106, oL 2 100, oT 2 137, oT 2 105], rp 9 (oL 2 100), [oR 0 17], rp 10 (oL 2 34), [oT 2 73, oT 2 41, oL 2 34, oT 2 74, oT 2 42, oL 2 34, oT 2 75, oT 2 43, oL 2 34, oT 2 76, oT 2 44, oL 2 34, oT 2 77, oT 2 45, oL 2 34, oT 2 78, oT 2 46, oL 2 34, oT 2 79, oT 2 47, oL 2 34, oT 2 80, oT 2 48]]
noncomputable def mT17 : Hp := cat [[oL 1 2, oL 17 2495846853397944102619202, oR 0 17, oB 17 1210107565283921547561026], rp 7 (oB 17 2495846853395745079363650), [oB 17 2495846853395674143129601, oB 17 2495846853397944102619200, oB 17 2495846853397944102619201, oB 17 2495846853397944102619200, oB 17 2495846853397944102619201, oB 17 2495846853397944102619200, oB 17 2495846853397944102619201, oB 17 2495846853397944102619200, oB 17 2495846853397944102619201, oP 474 17, oR 0 9, oT 2 544, oR 8 17]]
noncomputable def fT17 : Hp := cat [[oL 1 2, oL 17 2495846853397944102619202, oR 0 17, oB 17 1210107565283851719705633, oB 17 2495846853395675216871425], rp 3 (oB 17 2495846853395675217953793), [oB 17 2495846853395675216871425, oB 17 2495846853395675251508257, oB 17 2495846853395674143129600, oB 17 2495846853395674143129601, oB 17 2495846853397944102619200, oB 17 2495846853397944102619201, oB 17 2495846853397944102619200, oB 17 2495846853397944102619201, oB 17 2495846853397944102619200, oB 17 2495846853397944102619201, oB 17 2495846853397944102619200, oB 17 2495846853397944102619201, oP 474 17, oR 0 9, oT 2 544, oR 8 17, oT 2 0, oT 2 288, oM, oG 3 521650671, oT 2 0, oG 1 499, oR 0 8, oT 8 1108378657, oT 8 1073741825], rp 3 (oT 8 1074824193), [oT 8 1073741825, oT 8 1108378657, oT 8 0]]
noncomputable def gT17 : Grid := [dN 17 1210107565283851719705633, dN 17 2495846853395675216871425, dN 17 2495846853395675217953793, dN 17 2495846853395675217953793, dN 17 2495846853395675217953793, dN 17 2495846853395675216871425, dN 17 2495846853395675251508257, dN 17 2495846853395674143129600, dN 17 2495846853395674143129601, dN 17 2495846853397944102619200, dN 17 2495846853397944102619201, dN 17 2495846853397944102619200, dN 17 2495846853397944102619201, dN 17 2495846853397944102619200, dN 17 2495846853397944102619201, dN 17 2495846853397944102619200, dN 17 2495846853397944102619201]
noncomputable def bU17 : Hp := sizesT ++ bT17
noncomputable def sU17 : Hp := bU17 ++ .list rT17 :: xT17
noncomputable def cT17 : List Cell := (allCells (decide ((0 : Int) < 1)) 17 (incOf (0)) ((17 - 1) / 2)).filter (fun c => g2 gT17 c == some 2)
theorem blank17_a (l nn : List V) : one2 (spl2 (F_law_blank [.int ((17 : Nat) : Int)] (H2 l nn sizesT)) (.ref 20) bU17) = (.list l, .list nn) := by kernel_rfl
theorem blank17 (l nn : List V) : F_law_blank [.int ((17 : Nat) : Int)] (H2 l nn sizesT) = some (.ref 20, H2 l nn bU17) := spl2_eq (blank17_a l nn)
theorem mm17_a (l nn st : List V) (len : Int) : one4 (spl4 (F_make_matrix [.int ((17 : Nat) : Int), .int ((17 : Nat) : Int)] (H4 l nn sU17 (.rng 0 len 1) st [])) (.ref 491) sU17 mT17) = (.list l, .list nn, .rng 0 len 1, .list st) := by kernel_rfl
theorem mm17 (l nn st : List V) (len : Int) : F_make_matrix [.int ((17 : Nat) : Int), .int ((17 : Nat) : Int)] (H4 l nn sU17 (.rng 0 len 1) st []) = some (.ref 491, H4 l nn sU17 (.rng 0 len 1) st mT17) := spl4_eq (mm17_a l nn st len)
theorem fp17_a (l nn st : List V) (len : Int) : one4 (spl4 (F_add_finder_patterns [.ref 491, .int ((17 : Nat) : Int), .int ((17 : Nat) : Int)] (H4 l nn sU17 (.rng 0 len 1) st mT17)) .none sU17 fT17) = (.list l, .list nn, .rng 0 len 1, .list st) := by kernel_rfl
theorem fp17 (l nn st : List V) (len : Int) : F_add_finder_patterns [.ref 491, .int ((17 : Nat) : Int), .int ((17 : Nat) : Int)] (H4 l nn sU17 (.rng 0 len 1) st mT17) = some (.none, H4 l nn sU17 (.rng 0 len 1) st fT17) := spl4_eq (fp17_a l nn st len)
theorem bUlen17 : bU17.length = 119 := by kernel_rfl
theorem sUlen17 : sU17.length = 456 := by kernel_rfl
theorem dims17 : Dims gT17 17 := dimsChk_eq (by kernel_rfl)
theorem bdue17 : bU17[7]? = some (.list ((List.range 17).map fun j => .ref (22 + 2 * j))) := by kernel_rfl
theorem brows17 : ∀ (i : Nat) row, gT17[i]? = some row → bU17[9 + 2 * i]? = some (.list (bitsV row)) := dueChk_eq (by kernel_rfl)
theorem spw17 : spWhile (13 + 119) gT17 17 30 true (((17 : Nat) : Int) - 1) ([], []) = some (rT17, xT17) := spOk_eq (by kernel_rfl)
theorem spots17 (l nn : List V) : F_law_spots [.ref 20, .int ((17 : Nat) : Int)] (H2 l nn bU17) = some (.ref (13 + 119), H2 l nn sU17) := spots_at bUlen17 dims17 (by decide) bdue17 brows17 spw17 l nn
theorem mk17 : 18 + sU17.length + 17 = 491 := by rw [sUlen17]
theorem tup17 : fT17[3 + 17]? = some (.tup (rowRefs (18 + 456) 17)) := by kernel_rfl
theorem rows17 : ∀ (i : Nat) row, gT17[i]? = some row → fT17[3 + i]? = some (.ba row) := rowChk_eq (by kernel_rfl)
theorem spot17 : ∀ (t : Nat) (c : Cell), cT17[t]? = some c → ∃ a, 119 ≤ a ∧ rT17[t]? = some (.ref (13 + a)) ∧ sU17[a]? = some (.tup [.int (c.1 : Int), .int (c.2 : Int)]) := spotChk_eq (by kernel_rfl)
theorem nod17 : (allCells (decide ((0 : Int) < 1)) 17 (incOf (0)) ((17 - 1) / 2)).Nodup := cells_nodup (by kernel_rfl)
theorem clen17 : cT17.length = 192 := by kernel_rfl
theorem rlen17 : rT17.length = 192 := by kernel_rfl
theorem ok17 : SizeOk 3 17 192 (0) bU17 sU17 mT17 fT17 119 rT17 where
  qs := by decide
  row := rfl
  blank := blank17
  spots := spots17
  rf := by
    unfold sU17
    rw [List.getElem?_append_right (by rw [bUlen17]; exact Nat.le_refl _), bUlen17]
    rfl
  mlen := rlen17
  sm := by decide
  mm := fun l nn st len => by rw [mk17]; exact mm17 l nn st len
  fp := fun l nn st len => by rw [mk17]; exact fp17 l nn st len
theorem okB17 : SizeOk2 17 192 119 (0) sU17 fT17 gT17 cT17 rT17 where
  n8 := by decide
  odd := by decide
  sm := by decide
  mm := by decide
  dims := dims17
  rowsB := rows17
  tupB := by rw [sUlen17]; exact tup17
  due := get_app bdue17 _
  dueRows := fun i row h => get_app (brows17 i row h) _
  cellsEq := rfl
  nodup := nod17
  clen := clen17
  pbig := by decide
  spotAt := spot17
end Mine

namespace Mine
open _root_.PySem _root_.PySem.W
noncomputable def bT21 : Hp := cat [[oR 0 21, oS 22 21, oL 1 2, oL 21 1308542555038597939778630485025, oL 1 2, oL 21 1267650601411201244986997735425, oL 1 2, oL 21 1268928436002533908024663245825, oL 1 2, oL 21 1268928436002533908024663245825, oL 1 2, oL 21 1268928436002533908024663245825, oL 1 2, oL 21 1267650601411201244986997735425, oL 1 2, oL 21 1308542555037371765510846317601, oL 1 2, oL 21 2380222771809484800, oL 1 2, oL 21 2380222772883226624, oL 1 2, oL 21 2617085110148602635345884940354, oL 1 2, oL 21 2617085110148602635346958682178, oL 1 2, oL 21 2617085110148602635345884940354, oL 1 2, oL 21 2617085110148602635346958682178, oL 1 2, oL 21 2617085110148602633078072934400, oL 1 2, oL 21 2617085110148602633079181313057, oL 1 2, oL 21 2617085110148602633079146676225, oL 1 2, oL 21 2617085110148602633079147758593, oL 1 2, oL 21 2617085110148602633079147758593, oL 1 2, oL 21 2617085110148602633079147758593, oL 1 2, oL 21 2617085110148602633079146676225, oL 1 2, oL 21 2617085110148602633079181313057, oR 0 9, oR 8 13, oT 2 99, oT 2 547, oT 2 113, oF 3 70322241], rp 2 (oR 0 8), rp 8 (oL 5 32801), [oR 0 8], rp 8 (oL 5 32801), [oR 0 8], rp 8 (oL 5 32801), [oR 0 8], rp 8 (oL 5 32801), [oR 0 8], rp 8 (oL 5 32801), [oR 0 8], rp 8 (oL 5 32801), [oR 0 8], rp 8 (oL 5 32801), [oR 0 8], rp 8 (oL 5 32801), [oR 0 8, oR 13 21], rp 8 (oL 5 32801), [oR 13 21], rp 8 (oL 5 32801), [oR 13 21], rp 8 (oL 5 32801), [oR 13 21], rp 8 (oL 5 32801), [oR 13 21], rp 8 (oL 5 32801), [oR 13 21], rp 8 (oL 5 32801), [oR 13 21], rp 8 (oL 5 32801), [oR 13 21], rp 8 (oL 5 32801), [oR 13 21, oR 0 8], rp 8 (oL 5 32801), [oR 0 8], rp 8 (oL 5 32801), [oR 0 8], rp 8 (oL 5 32801), [oR 0 8], rp 8 (oL 5 32801), [oR 0 8], rp 8 (oL 5 32801), [oR 0 8], rp 8 (oL 5 32801), [oR 0 8], rp 8 (oL 5 32801), [oR 0 8], rp 8 (oL 5 32801)]
noncomputable def rT21 : List V := dF 208 96061199401631476654881559646392192482421850114902896565948358199949506031373043752869719196572323167143025226629576607517331239951288787519614333036859183733586426584598800110713864774946435563734103393170809329439392428625612000990322083141433824180336230930785795555704736347324391547782771253229793665390535433289773283319275674565822911864716448795545563678159088072693860357526047763205506068129230883634888932996166905319793687825582525472141547572919552907019280383325386257553348700585295776635259235401966302669614705396315783543236911095088365044610220186388508215313295003352642521842933922310982281697946734203171
noncomputable def xT21 : Hp := cat [[oR 0 21, oL 2 628, oT 2 660, oT 2 628, oL 2 628, oT 2 659, oT 2 627, oL 2 628, oT 2 658, oT 2 626, oL 2 628, oT 2 657, oT 2 625, oL 2 628, oT 2 656, oT 2 624, oL 2 628, oT 2 655, oT 2 623, oL 2 628, oT 2 654, oT 2 622, oL 2 628, oT 2 653, oT 2 621, oL 2 628, oT 2 652, oT 2 620, oL 2 628, oT 2 651, oT 2 619, oL 2 628, oT 2 650, oT 2 618, oL 2 628, oT 2 649, oT 2 617], rp 9 (oL 2 628), [oR 0 21], rp 10 (oL 2 562), [oT 2 585, oT 2 553, oL 2 562, oT 2 586, oT 2 554, oL 2 562, oT 2 587, oT 2 555, oL 2 562, oT 2 588, oT 2 556, oL 2 562, oT 2 589, oT 2 557, oL 2 562, oT 2 590, oT 2 558, oL 2 562, oT 2 591, oT 2 559, oL 2 562, oT 2 592, oT 2 560, oL 2 562, oT 2 593, oT 2 561, oL 2 562, oT 2 594, oT 2 562, oL 2 562, oT 2 595, oT 2 563, oL 2 562, oT 2 596, oT 2 564, oR 0 21, oL 2 496, oT 2 532, oT 2 500, oL 2 496, oT 2 531, oT 2 499, oL 2 496, oT 2 530, oT 2 498, oL 2 496, oT 2 529, oT 2 497, oL 2 496, oT 2 528, oT 2 496, oL 2 496, oT 2 527, oT 2 495, oL 2 496, oT 2 526, oT 2 494, oL 2 496, oT 2 525, oT 2 493, oL 2 496, oT 2 524, oT 2 492, oL 2 496, oT 2 523, oT 2 491, oL 2 496, oT 2 522, oT 2 490, oL 2 496, oT 2 521, oT 2 489], rp 9 (oL 2 496), [oR 0 21], rp 10 (oL 2 430), [oT 2 457, oT 2 425, oL 2 430, oT 2 458, oT 2 426, oL 2 430, oT 2 459, oT 2 427, oL 2 430, oT 2 460, oT 2 428, oL 2 430, oT 2 461, oT 2 429, oL 2 430, oT 2 462, oT 2 430, oL 2 430, oT 2 463, oT 2 431, oL 2 430, oT 2 464, oT 2 432, oL 2 430, oT 2 465, oT 2 433, oL 2 430, oT 2 466, oT 2 434, oL 2 430, oT 2 467, oT 2 435, oL 2 430, oT 2 468, oT 2 436, oR 0 21, oL 2 364, oT 2 404, oT 2 372, oL 2 364, oT 2 403, oT 2 371, oL 2 364, oT 2 402, oT 2 370, oL 2 364, oT 2 401, oT 2 369, oL 2 364, oT 2 400, oT 2 368, oL 2 364, oT 2 399, oT 2 367, oL 2 364, oT 2 398, oT 2 366, oL 2 364, oT 2 397, oT 2 365, oL 2 364, oT 2 396, oT 2 364, oL 2 364, oT 2 395, oT 2 363, oL 2 364, oT 2 394, oT 2 362, oL 2 364, oT 2 393, oT 2 361, oL 2 364, oT 2 392, oT 2 360, oL 2 364, oT 2 391, oT 2 359], rp 2 (oL 2 364), [oT 2 389, oT 2 357, oL 2 364, oT 2 388, oT 2 356, oL 2 364, oT 2 387, oT 2 355, oL 2 364, oT 2 386, oT 2 354, oL 2 364, oT 2 385, oT 2 353, oL 2 364, oT 2 384, oT 2 352, oR 0 21, oL 2 298, oT 2 320, oT 2 288, oL 2 298, oT 2 321, oT 2 289, oL 2 298, oT 2 322, oT 2 290, oL 2 298, oT 2 323, oT 2 291, oL 2 298, oT 2 324, oT 2 292, oL 2 298, oT 2 325, oT 2 293], rp 2 (oL 2 298), [oT 2 327, oT 2 295, oL 2 298, oT 2 328, oT 2 296, oL 2 298, oT 2 329, oT 2 297, oL 2 298, oT 2 330, oT 2 298, oL 2 298, oT 2 331, oT 2 299, oL 2 298, oT 2 332, oT 2 300, oL 2 298, oT 2 333, oT 2 301, oL 2 298, oT 2 334, oT 2 302, oL 2 298, oT 2 335, oT 2 303, oL 2 298, oT 2 336, oT 2 304, oL 2 298, oT 2 337, oT 2 305, oL 2 298, oT 2 338, oT 2 306, oL 2 298, oT 2 339, oT 2 307, oL 2 298, oT 2 340, oT 2 308, oR 0 21], rp 9 (oL 2 232), [oT 2 268, oT 2 236, oL 2 232, oT 2 267, oT 2 235, oL 2 232, oT 2 266, oT 2 234, oL 2 232, oT 2 265, oT 2 233], rp 9 (oL 2 232), [oR 0 21], rp 10 (oL 2 133), [oT 2 169, oT 2 137, oL 2 133, oT 2 170, oT 2 138, oL 2 133, oT 2 171, oT 2 139, oL 2 133, oT 2 172, oT 2 140], rp 8 (oL 2 133), [oR 0 21], rp 9 (oL 2 67), [oT 2 108, oT 2 76, oL 2 67, oT 2 107, oT 2 75, oL 2 67, oT 2 106, oT 2 74, oL 2 67, oT 2 105, oT 2 73], rp 9 (oL 2 67), [oR 0 21], rp 10 (oL 2 1), [oT 2 41, oT 2 9, oL 2 1, oT 2 42, oT 2 10, oL 2 1, oT 2 43, oT 2 11, oL 2 1, oT 2 44, oT 2 12], rp 8 (oL 2 1)]
noncomputable def mT21 : Hp := cat [[oL 1 2, oL 21 2617085110148602635348032424002, oR 0 21], rp 6 (oB 21 2617085110148602633149009168450), [oB 21 2617085110147376458881225001026, oB 21 2617085110148602633149009168450, oB 21 2380222772883226624, oB 21 2617085110148602635345884940354, oB 21 2617085110148602635346958682178, oB 21 2617085110148602635345884940354, oB 21 2617085110148602635346958682178], rp 8 (oB 21 2617085110148602633149009168450), [oP 722 21, oR 0 9, oT 2 422, oR 8 13]]
noncomputable def fT21 : Hp := cat [[oL 1 2, oL 21 2617085110148602635348032424002, oR 0 21, oB 21 1308542555038597939778630485025, oB 21 1267650601411201244986997735425], rp 3 (oB 21 1268928436002533908024663245825), [oB 21 1267650601411201244986997735425, oB 21 1308542555037371765510846317601, oB 21 2380222771809484800, oB 21 2380222772883226624, oB 21 2617085110148602635345884940354, oB 21 2617085110148602635346958682178, oB 21 2617085110148602635345884940354, oB 21 2617085110148602635346958682178, oB 21 2617085110148602633078072934400, oB 21 2617085110148602633079181313057, oB 21 2617085110148602633079146676225], rp 3 (oB 21 2617085110148602633079147758593), [oB 21 2617085110148602633079146676225, oB 21 2617085110148602633079181313057, oP 722 21, oR 0 9, oT 2 422, oR 8 13, oT 2 0, oT 2 416, oM, oG 3 786150123, oR 0 8, oT 8 1108378657, oT 8 1073741825], rp 3 (oT 8 1074824193), [oT 8 1073741825, oT 8 1108378657, oT 8 0, oT 8 35468117024, oT 8 34359738400], rp 3 (oT 8 34394374176), [oT 8 34359738400, oT 8 35468117024], rp 2 (oT 8 0), [oT 8 1108378657, oT 8 1073741825], rp 3 (oT 8 1074824193), [oT 8 1073741825, oT 8 1108378657]]
noncomputable def gT21 : Grid := [dN 21 1308542555038597939778630485025, dN 21 1267650601411201244986997735425, dN 21 1268928436002533908024663245825, dN 21 1268928436002533908024663245825, dN 21 1268928436002533908024663245825, dN 21 1267650601411201244986997735425, dN 21 1308542555037371765510846317601, dN 21 2380222771809484800, dN 21 2380222772883226624, dN 21 2617085110148602635345884940354, dN 21 2617085110148602635346958682178, dN 21 2617085110148602635345884940354, dN 21 2617085110148602635346958682178, dN 21 2617085110148602633078072934400, dN 21 2617085110148602633079181313057, dN 21 2617085110148602633079146676225, dN 21 2617085110148602633079147758593, dN 21 2617085110148602633079147758593, dN 21 2617085110148602633079147758593, dN 21 2617085110148602633079146676225, dN 21 2617085110148602633079181313057]
noncomputable def bU21 : Hp := sizesT ++ bT21
noncomputable def sU21 : Hp := bU21 ++ .list rT21 :: xT21
noncomputable def cT21 : List Cell := (allCells (decide ((1 : Int) < 1)) 21 (incOf (1)) ((21 - 1) / 2)).filter (fun c => g2 gT21 c == some 2)
theorem blank21_a (l nn : List V) : one2 (spl2 (F_law_blank [.int ((21 : Nat) : Int)] (H2 l nn sizesT)) (.ref 20) bU21) = (.list l, .list nn) := by kernel_rfl
theorem blank21 (l nn : List V) : F_law_blank [.int ((21 : Nat) : Int)] (H2 l nn sizesT) = some (.ref 20, H2 l nn bU21) := spl2_eq (blank21_a l nn)
theorem mm21_a (l nn st : List V) (len : Int) : one4 (spl4 (F_make_matrix [.int ((21 : Nat) : Int), .int ((21 : Nat) : Int)] (H4 l nn sU21 (.rng 0 len 1) st [])) (.ref 743) sU21 mT21) = (.list l, .list nn, .rng 0 len 1, .list st) := by kernel_rfl
theorem mm21 (l nn st : List V) (len : Int) : F_make_matrix [.int ((21 : Nat) : Int), .int ((21 : Nat) : Int)] (H4 l nn sU21 (.rng 0 len 1) st []) = some (.ref 743, H4 l nn sU21 (.rng 0 len 1) st mT21) := spl4_eq (mm21_a l nn st len)
theorem fp21_a (l nn st : List V) (len : Int) : one4 (spl4 (F_add_finder_patterns [.ref 743, .int ((21 : Nat) : Int), .int ((21 : Nat) : Int)] (H4 l nn sU21 (.rng 0 len 1) st mT21)) .none sU21 fT21) = (.list l, .list nn, .rng 0 len 1, .list st) := by kernel_rfl
theorem fp21 (l nn st : List V) (len : Int) : F_add_finder_patterns [.ref 743, .int ((21 : Nat) : Int), .int ((21 : Nat) : Int)] (H4 l nn sU21 (.rng 0 len 1) st mT21) = some (.none, H4 l nn sU21 (.rng 0 len 1) st fT21) := spl4_eq (fp21_a l nn st len)
theorem bUlen21 : bU21.length = 275 := by kernel_rfl
theorem sUlen21 : sU21.length = 704 := by kernel_rfl
theorem dims21 : Dims gT21 21 := dimsChk_eq (by kernel_rfl)
theorem bdue21 : bU21[7]? = some (.list ((List.range 21).map fun j => .ref (22 + 2 * j))) := by kernel_rfl
theorem brows21 : ∀ (i : Nat) row, gT21[i]? = some row → bU21[9 + 2 * i]? = some (.list (bitsV row)) := dueChk_eq (by kernel_rfl)
theorem spw21 : spWhile (13 + 275) gT21 21 30 true (((21 : Nat) : Int) - 1) ([], []) = some (rT21, xT21) := spOk_eq (by kernel_rfl)
theorem spots21 (l nn : List V) : F_law_spots [.ref 20, .int ((21 : Nat) : Int)] (H2 l nn bU21) = some (.ref (13 + 275), H2 l nn sU21) := spots_at bUlen21 dims21 (by decide) bdue21 brows21 spw21 l nn
theorem mk21 : 18 + sU21.length + 21 = 743 := by rw [sUlen21]
theorem tup21 : fT21[3 + 21]? = some (.tup (rowRefs (18 + 704) 21)) := by kernel_rfl
theorem rows21 : ∀ (i : Nat) row, gT21[i]? = some row → fT21[3 + i]? = some (.ba row) := rowChk_eq (by kernel_rfl)
theorem spot21 : ∀ (t : Nat) (c : Cell), cT21[t]? = some c → ∃ a, 275 ≤ a ∧ rT21[t]? = some (.ref (13 + a)) ∧ sU21[a]? = some (.tup [.int (c.1 : Int), .int (c.2 : Int)]) := spotChk_eq (by kernel_rfl)
theorem nod21 : (allCells (decide ((1 : Int) < 1)) 21 (incOf (1)) ((21 - 1) / 2)).Nodup := cells_nodup (by kernel_rfl)
theorem clen21 : cT21.length = 208 := by kernel_rfl
theorem rlen21 : rT21.length = 208 := by kernel_rfl
theorem ok21 : SizeOk 4 21 208 (1) bU21 sU21 mT21 fT21 275 rT21 where
  qs := by decide
  row := rfl
  blank := blank21
  spots := spots21
  rf := by
    unfold sU21
    rw [List.getElem?_append_right (by rw [bUlen21]; exact Nat.le_refl _), bUlen21]
    rfl
  mlen := rlen21
  sm := by decide
  mm := fun l nn st len => by rw [mk21]; exact mm21 l nn st len
  fp := fun l nn st len => by rw [mk21]; exact fp21 l nn st len
theorem okB21 : SizeOk2 21 208 275 (1) sU21 fT21 gT21 cT21 rT21 where
  n8 := by decide
  odd := by decide
  sm := by decide
  mm := by decide
  dims := dims21
  rowsB := rows21
  tupB := by rw [sUlen21]; exact tup21
  due := get_app bdue21 _
  dueRows := fun i row h => get_app (brows21 i row h) _
  cellsEq := rfl
  nodup := nod21
  clen := clen21
  pbig := by decide
  spotAt := spot21
end Mine

namespace Mine
open _root_.PySem _root_.PySem.W

/-- the plain law -/
theorem plain (xs : List Int) (hx : xs.length ≤ 63) : GoodScript xs := by
  have h1 := (nums_len (xs := xs)).1
  have hr := fmod_range ((nums xs)[0]) (k := 5) (by omega)
  have h5 : ((nums xs)[0]).fmod 5 = ((0 : Nat) : Int) ∨ ((nums xs)[0]).fmod 5 = ((1 : Nat) : Int) ∨ ((nums xs)[0]).fmod 5 = ((2 : Nat) : Int) ∨ ((nums xs)[0]).fmod 5 = ((3 : Nat) : Int) ∨ ((nums xs)[0]).fmod 5 = ((4 : Nat) : Int) := by
    rw [show (((5 : Nat) : Int)) = 5 from rfl] at hr
    omega
  rcases h5 with h | h | h | h | h
  · exact good_of ok11 okB11 hx h1 h
  · exact good_of ok13 okB13 hx h1 h
  · exact good_of ok15 okB15 hx h1 h
  · exact good_of ok17 okB17 hx h1 h
  · exact good_of ok21 okB21 hx h1 h
theorem walkT : MineH.Asked := asked_of plain
end Mine

namespace MineH
open _root_.PySem _root_.PySem.W PyProof.Rows _root_.PySem.Calls Mine
set_option maxHeartbeats 8000000 in
theorem hd2 : _root_.PySem.Challenge.rw_im0115_01.Holds := by
  w_on
  refine holds_law MineF.saidL fun said => ?_
  o_head (kHook frag2
    [48, 3, 15, 16, 17, 18, 19, 20, 21, 22, 23, 24, 30, 31, 37, 38, 44, 45, 46, 52, 53, 59, 60, 64, 65, 71, 72, 76, 77] (fun _ => by kernel_rfl))
  case hw => w_witness2
  exact Mine.walkT
end MineH

theorem PySem.Challenge.cw_im0115_01_holds : PySem.Challenge.rw_im0115_01.Holds :=
  MineH.hd2
