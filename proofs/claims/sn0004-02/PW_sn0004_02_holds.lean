import PyProof.Rows.All
import Wide.All
import OpenK.AllK
import Wide.FinOn
import PySem.Challenge.RW_sn0004_02
open PySem PySem.W PyProof.Rows PySem.Calls
set_option maxRecDepth 100000
set_option Elab.async false

namespace Mine
abbrev PHeap := Addr → Option Obj
def Le (z z' : PHeap) : Prop := ∀ b o, z b = some o → z' b = some o
theorem Le.refl (z : PHeap) : Le z z := fun _ _ e => e
theorem Le.trans {a b c : PHeap} (x : Le a b) (y : Le b c) : Le a c := fun _ _ e => y _ _ (x _ _ e)

def mOf : List Str → List (Option Value) → Str → Option Value
  | k :: ks, v :: vs, y => if y = k then v else mOf ks vs y
  | _, _, _ => none

theorem mOf_get : ∀ {K : List Str} {vals : List (Option Value)} {i : Nat} {x : Str} {v : Option Value}, K.Nodup → K[i]? = some x → vals[i]? = some v → mOf K vals x = v
  | [], _, _, _, _, _, hk, _ => by simp at hk
  | _ :: _, [], _, _, _, _, _, hv => by simp at hv
  | k :: ks, w :: vs, 0, x, v, _, hk, hv => by
    simp at hk hv; subst hk; subst hv; simp [mOf]
  | k :: ks, w :: vs, i + 1, x, v, hn, hk, hv => by
    have hne : x ≠ k := by
      rintro rfl
      have : x ∈ ks := List.mem_of_getElem? (by simpa using hk)
      exact (List.nodup_cons.mp hn).1 this
    simp only [mOf, if_neg hne]
    exact mOf_get (List.nodup_cons.mp hn).2 (by simpa using hk) (by simpa using hv)

theorem mOf_set : ∀ {K : List Str} {vals : List (Option Value)} {i : Nat} {x : Str} {v : Option Value}, K.Nodup → K[i]? = some x → i < vals.length →
    mOf K (vals.set i v) = fun y => if y = x then v else mOf K vals y
  | [], _, _, _, _, _, hk, _ => by simp at hk
  | _ :: _, [], _, _, _, _, _, hv => by simp at hv
  | k :: ks, w :: vs, 0, x, v, _, hk, _ => by
    simp at hk; subst hk; funext y; simp only [List.set, mOf]; split <;> simp [*]
  | k :: ks, w :: vs, i + 1, x, v, hn, hk, hv => by
    have hne : x ≠ k := by
      rintro rfl
      have : x ∈ ks := List.mem_of_getElem? (by simpa using hk)
      exact (List.nodup_cons.mp hn).1 this
    funext y
    simp only [List.set, mOf]
    rw [mOf_set (List.nodup_cons.mp hn).2 (by simpa using hk) (by simpa using hv)]
    by_cases h1 : y = k
    · subst h1; simp [Ne.symm hne]
    · simp [h1]

/-- the state within one frame: g the state at the call, z what stays, L the locals, ms what this frame has made and may turn -/
structure St (h₀ : Heap) (g : Shared) (z : PHeap) (L : Addr) (K : List Str) (vals : List (Option Value)) (ms : List (Addr × Obj)) (s : Shared) : Prop where
  sh : ∃ h tk, s = { g with heap := h, toks := tk }
  ns : s.heap.Ns L (mOf K vals)
  keep : Le z s.heap.get?
  zL : z L = none
  gL : g.heap.objs.size ≤ L
  own : ∀ p ∈ ms, s.heap.get? p.1 = some p.2 ∧ p.1 ≠ L ∧ z p.1 = none ∧ g.heap.objs.size ≤ p.1
  nd : (ms.map (·.1)).Nodup
  zg : Le g.heap.get? z
  sz : g.heap.objs.size ≤ s.heap.objs.size
  h0 : Le h₀.get? g.heap.get?

structure EnvOk (env : Env) (L : Addr) (K Gs : List Str) : Prop where
  kind : env.scope.kind = .function
  loc : env.locals = L
  glob : env.globals = mainGlobals
  blt : env.builtins = builtinsNs
  kl : ∀ x ∈ K, env.kindOf x = some .local
  kg : ∀ x ∈ Gs, env.kindOf x = some .globalImplicit
  nd : K.Nodup
  nb : ("__debug__" : Str) ∉ K
  ng : ("__debug__" : Str) ∉ Gs

section
variable {h₀ : Heap} {g : Shared} {z z' : PHeap} {L : Addr} {K Gs : List Str} {vals : List (Option Value)} {ms : List (Addr × Obj)} {s : Shared}

theorem St.base (S : St h₀ g z L K vals ms s) : Le h₀.get? s.heap.get? := (S.h0.trans S.zg).trans S.keep
theorem St.baseZ (S : St h₀ g z L K vals ms s) : Le h₀.get? z := S.h0.trans S.zg

theorem St.tok (S : St h₀ g z L K vals ms s) (k : Nat) : St h₀ g z L K vals ms { s with toks := k } := by
  obtain ⟨h, tk, e⟩ := S.sh
  exact ⟨⟨h, k, by rw [e]⟩, S.ns, S.keep, S.zL, S.gL, S.own, S.nd, S.zg, S.sz, S.h0⟩

theorem St.push (S : St h₀ g z L K vals ms s) (o : Obj) : St h₀ g z L K vals ms { s with heap := s.heap.push o } := by
  obtain ⟨h, tk, e⟩ := S.sh
  refine ⟨⟨_, s.toks, by rw [e]⟩, S.ns.push o, fun b ob hb => Heap.get?_push_of_some o (S.keep b ob hb), S.zL, S.gL, fun p hp => ?_, S.nd, S.zg, ?_, S.h0⟩
  · obtain ⟨a, b, c, d⟩ := S.own p hp
    exact ⟨Heap.get?_push_of_some o a, b, c, d⟩
  · show g.heap.objs.size ≤ (s.heap.push o).objs.size
    rw [Heap.size_push]; exact Nat.le_succ_of_le S.sz

theorem St.L_lt (S : St h₀ g z L K vals ms s) : L < s.heap.objs.size := S.ns.lt
theorem St.alloc (S : St h₀ g z L K vals ms s) {o : Obj} (ho : o.isFreed = false) : St h₀ g z L K vals ((s.heap.objs.size, o) :: ms) { s with heap := s.heap.push o } := by
  have P := S.push o
  have nz : z s.heap.objs.size = none := by
    cases q : z s.heap.objs.size with
    | none => rfl
    | some x => exact absurd (Heap.lt_size (S.keep _ _ q)) (Nat.lt_irrefl _)
  refine ⟨P.sh, P.ns, P.keep, P.zL, P.gL, fun p hp => ?_, ?_, P.zg, P.sz, P.h0⟩
  · rcases List.mem_cons.mp hp with rfl | hp
    · exact ⟨Heap.get?_push_size _ ho, Nat.ne_of_gt S.L_lt, nz, S.sz⟩
    · exact P.own p hp
  · rw [List.map_cons, List.nodup_cons]
    refine ⟨fun hm => ?_, S.nd⟩
    obtain ⟨p, hp, e⟩ := List.mem_map.mp hm
    have := Heap.lt_size (S.own p hp).1
    rw [e] at this
    exact absurd this (Nat.lt_irrefl _)

/-- something of the frame's own is turned -/
theorem St.upd {pre post : List (Addr × Obj)} {D : Addr} {o o' : Obj} {h' : Heap} (S : St h₀ g z L K vals (pre ++ (D, o) :: post) s) (hs : Heap.SameBut D s.heap h') (ho : h'.get? D = some o') :
    St h₀ g z L K vals (pre ++ (D, o') :: post) { s with heap := h' } := by
  obtain ⟨h, tk, e⟩ := S.sh
  have D0 := S.own (D, o) (by simp)
  have nd := S.nd
  refine ⟨⟨_, s.toks, by rw [e]⟩, S.ns.sameBut hs (Ne.symm D0.2.1), fun b ob hb => (hs.2 b ?_).trans (S.keep b ob hb), S.zL, S.gL, fun p hp => ?_, ?_, S.zg, ?_, S.h0⟩
  · rintro rfl; rw [D0.2.2.1] at hb; cases hb
  · rcases List.mem_append.mp hp with q | q
    · have P := S.own p (List.mem_append_left _ q)
      refine ⟨(hs.2 _ fun e => ?_).trans P.1, P.2⟩
      rw [List.map_append, List.map_cons] at nd
      have := (List.nodup_append.mp nd).2.2 p.1 (List.mem_map_of_mem q) D (by simp)
      exact this e
    · rcases List.mem_cons.mp q with rfl | q
      · exact ⟨ho, D0.2⟩
      · have P := S.own p (List.mem_append_right _ (.tail _ q))
        refine ⟨(hs.2 _ fun e => ?_).trans P.1, P.2⟩
        rw [List.map_append, List.map_cons] at nd
        have := (List.nodup_cons.mp (List.nodup_append.mp nd).2.1).1
        exact this (List.mem_map.mpr ⟨p, q, e⟩)
  · simpa using nd
  · show g.heap.objs.size ≤ h'.objs.size
    rw [hs.1]; exact S.sz

theorem St.drop {p : Addr × Obj} (S : St h₀ g z L K vals (p :: ms) s) : St h₀ g z L K vals ms s :=
  ⟨S.sh, S.ns, S.keep, S.zL, S.gL, fun q hq => S.own q (.tail _ hq), (List.nodup_cons.mp S.nd).2, S.zg, S.sz, S.h0⟩
theorem St.sub {ms' : List (Addr × Obj)} (S : St h₀ g z L K vals ms s) (h : ms'.Sublist ms) : St h₀ g z L K vals ms' s :=
  ⟨S.sh, S.ns, S.keep, S.zL, S.gL, fun q hq => S.own q (h.subset hq), S.nd.sublist (h.map _), S.zg, S.sz, S.h0⟩
theorem St.perm {ms' : List (Addr × Obj)} (S : St h₀ g z L K vals ms s) (h : ms'.Perm ms) : St h₀ g z L K vals ms' s :=
  ⟨S.sh, S.ns, S.keep, S.zL, S.gL, fun q hq => S.own q (h.mem_iff.mp hq), (h.map (·.1)).nodup_iff.mpr S.nd, S.zg, S.sz, S.h0⟩
theorem St.swap {p q : Addr × Obj} (S : St h₀ g z L K vals (p :: q :: ms) s) : St h₀ g z L K vals (q :: p :: ms) s := S.perm (.swap _ _ _)

/-- what is new since n -/
def nw (n : Nat) (h : PHeap) : PHeap := fun b => if n ≤ b then h b else none
theorem nw_le (n : Nat) (h : PHeap) : Le (nw n h) h := fun b o e => by
  unfold nw at e; split at e
  · exact e
  · cases e
theorem nw_mono {n : Nat} {h h' : PHeap} (x : Le h h') : Le (nw n h) (nw n h') := fun b o e => by
  unfold nw at e ⊢; split at e
  · rename_i q; rw [if_pos q]; exact x _ _ e
  · cases e
theorem nw_le_nw {n m : Nat} {h : PHeap} (x : n ≤ m) : Le (nw m h) (nw n h) := fun b o e => by
  unfold nw at e ⊢; split at e
  · rename_i q; rw [if_pos (Nat.le_trans x q)]; exact e
  · cases e
theorem nw_get {n : Nat} {h : PHeap} {b : Addr} {o : Obj} (hb : n ≤ b) (e : h b = some o) : nw n h b = some o := by unfold nw; rw [if_pos hb]; exact e

def zset (z : PHeap) (a : Addr) (o : Obj) : PHeap := fun b => if b = a then some o else z b
theorem zset_self {z : PHeap} {a : Addr} {o : Obj} : zset z a o a = some o := if_pos rfl
theorem zset_ne {z : PHeap} {a b : Addr} {o : Obj} (h : b ≠ a) : zset z a o b = z b := if_neg h
/-- the first of the frame's own objects turns no more -/
theorem St.freeze {p : Addr × Obj} (S : St h₀ g z L K vals (p :: ms) s) : ∃ z', Le z z' ∧ z' p.1 = some p.2 ∧ nw g.heap.objs.size z' p.1 = some p.2 ∧ St h₀ g z' L K vals ms s := by
  obtain ⟨a, o⟩ := p
  have P := S.own (a, o) (.head _)
  have ne : ∀ q ∈ ms, q.1 ≠ a := fun q hq e => (List.nodup_cons.mp S.nd).1 (List.mem_map.mpr ⟨q, hq, e⟩)
  have le : Le z (zset z a o) := fun b ob hb => by
    by_cases e : b = a
    · rw [e, P.2.2.1] at hb; cases hb
    · rw [zset_ne e]; exact hb
  refine ⟨zset z a o, le, zset_self, nw_get P.2.2.2 zset_self, ⟨S.sh, S.ns, fun b ob hb => ?_, ?_, S.gL, fun q hq => ?_, (List.nodup_cons.mp S.nd).2, S.zg.trans le, S.sz, S.h0⟩⟩
  · by_cases e : b = a
    · rw [e, zset_self] at hb; cases hb; rw [e]; exact P.1
    · rw [zset_ne e] at hb; exact S.keep b ob hb
  · rw [zset_ne (Ne.symm P.2.1)]; exact S.zL
  · have Q := S.own q (.tail _ hq)
    exact ⟨Q.1, Q.2.1, by rw [zset_ne (ne q hq)]; exact Q.2.2.1, Q.2.2.2⟩

/-- a call that keeps all -/
structure Keeps (s s' : Shared) : Prop where
  sh : ∃ h tk, s' = { s with heap := h, toks := tk }
  le : Le s.heap.get? s'.heap.get?
  sz : s.heap.objs.size ≤ s'.heap.objs.size
theorem St.keeps (S : St h₀ g z L K vals ms s) : Keeps g s := ⟨S.sh, S.zg.trans S.keep, S.sz⟩

def zoff (h : PHeap) (L : Addr) (as : List Addr) : PHeap := fun b => if b = L ∨ b ∈ as then none else h b
theorem zoff_get {h : PHeap} {L b : Addr} {as : List Addr} (h1 : b ≠ L) (h2 : b ∉ as) : zoff h L as b = h b := if_neg (fun x => x.elim h1 h2)
theorem zoff_le {h : PHeap} {L : Addr} {as : List Addr} : Le (zoff h L as) h := fun b o e => by
  unfold zoff at e
  split at e
  · cases e
  · exact e
theorem St.back {s' : Shared} (S : St h₀ g z L K vals ms s) (k : Keeps s s') : ∃ z', Le z z' ∧ Le (nw s.heap.objs.size s'.heap.get?) (nw g.heap.objs.size z') ∧ St h₀ g z' L K vals ms s' := by
  have nz : ∀ b o, z b = some o → b ≠ L ∧ b ∉ ms.map (·.1) := fun b o e => by
    refine ⟨fun q => ?_, fun hm => ?_⟩
    · rw [q, S.zL] at e; cases e
    · obtain ⟨p, hp, q⟩ := List.mem_map.mp hm
      rw [← q, (S.own p hp).2.2.1] at e; cases e
  have le : Le z (zoff s'.heap.get? L (ms.map (·.1))) := fun b o e => by
    rw [zoff_get (nz b o e).1 (nz b o e).2]
    exact k.le _ _ (S.keep _ _ e)
  refine ⟨zoff s'.heap.get? L (ms.map (·.1)), le, fun b o e => ?_, ⟨?_, S.ns.keeps k.le, zoff_le, if_pos (.inl rfl), S.gL, fun p hp => ?_, S.nd, S.zg.trans le, Nat.le_trans S.sz k.sz, S.h0⟩⟩
  · have hb : s.heap.objs.size ≤ b := by
      unfold nw at e; split at e
      · assumption
      · cases e
    have e' := nw_le _ _ _ _ e
    refine nw_get (Nat.le_trans S.sz hb) ?_
    rw [zoff_get (fun q => ?_) fun q => ?_]; exact e'
    · exact absurd S.L_lt (by rw [← q]; exact Nat.not_lt.mpr hb)
    · obtain ⟨p, hp, q⟩ := List.mem_map.mp q
      exact absurd (Heap.lt_size (S.own p hp).1) (by rw [q]; exact Nat.not_lt.mpr hb)
  · obtain ⟨h, tk, e⟩ := S.sh
    obtain ⟨h', tk', e'⟩ := k.sh
    exact ⟨h', tk', by rw [e', e]⟩
  · have P := S.own p hp
    exact ⟨k.le _ _ P.1, P.2.1, if_pos (.inr (List.mem_map_of_mem hp)), P.2.2.2⟩

/-- the start of a call -/
theorem St.start {h₁ : Heap} {tk : Nat} {m : Str → Option Value} (hs : Le h₀.get? s.heap.get?) (hn : h₁.Ns s.heap.objs.size m) (hk : ∀ b o, s.heap.get? b = some o → h₁.get? b = some o) (hm : m = mOf K vals) :
    St h₀ s s.heap.get? s.heap.objs.size K vals [] { s with heap := h₁, toks := tk } := by
  subst hm
  refine ⟨⟨_, _, rfl⟩, hn, hk, ?_, Nat.le_refl _, fun _ h => (nomatch h), List.nodup_nil, Le.refl _, ?_, hs⟩
  · cases q : s.heap.get? s.heap.objs.size with
    | none => rfl
    | some x => exact absurd (Heap.lt_size q) (Nat.lt_irrefl _)
  · exact Nat.le_of_lt hn.lt
end

section
variable {M : Model} {prog : Program} {w : World} {A : Around} {E : Value → Shared → Prop} {h₀ : Heap} {g : Shared} {z z' : PHeap} {L : Addr} {K Gs : List Str} {vals : List (Option Value)} {ms : List (Addr × Obj)} {s : Shared} {env : Env}

theorem ldAt {i : Nat} {x : Str} {pos : Pos} {v : Value} {Q : Value → Shared → Prop} (S : St h₀ g z L K vals ms s) (O : EnvOk env L K Gs) (hk : K[i]? = some x) (hv : vals[i]? = some (some v)) (h : Q v s) :
    wpAny M A (eval (.Name x pos) env) Q E s := by
  have hm := List.mem_of_getElem? hk
  have hd : (x == ("__debug__" : Str)) = false := by
    cases q : x == ("__debug__" : Str) with
    | false => rfl
    | true => exact absurd (eq_of_beq q ▸ hm) O.nb
  exact wpAny_Name (wpAny_loadName_local O.kind (O.kl x hm) (O.loc ▸ S.ns) (mOf_get O.nd hk hv) h) hd

theorem stAt {i : Nat} {x : Str} {v : Value} {Q : Unit → Shared → Prop} (S : St h₀ g z L K vals ms s) (O : EnvOk env L K Gs) (hk : K[i]? = some x) (hi : i < vals.length)
    (h : ∀ s', 0 < s'.toks → St h₀ g z L K (vals.set i (some v)) ms s' → Q () s') : wpAny M A (storeName env x v) Q E s := by
  have hm := List.mem_of_getElem? hk
  obtain ⟨h1, tk, e⟩ := S.sh
  refine wpAny_storeName_local (O.kl x hm) (O.loc ▸ S.ns) (fun h' hn hs => h _ (Nat.succ_pos _) ?_) (by rw [O.kind]; rfl)
  rw [O.loc] at hn hs
  refine ⟨⟨h', _, by rw [e]⟩, by rw [mOf_set O.nd hk hi]; exact hn, fun b o hb => (hs.2 b fun q => ?_).trans (S.keep b o hb), S.zL, S.gL, fun p hp => ?_, S.nd, S.zg, ?_, S.h0⟩
  · subst q; rw [S.zL] at hb; cases hb
  · have P := S.own p hp
    exact ⟨(hs.2 _ P.2.1).trans P.1, P.2⟩
  · show g.heap.objs.size ≤ h'.objs.size
    rw [hs.1]; exact S.sz

theorem ldG {x : Str} {pos : Pos} {v : Value} {mg : Str → Option Value} {Q : Value → Shared → Prop} (S : St h₀ g z L K vals ms s) (O : EnvOk env L K Gs) (hx : x ∈ Gs) (hn : h₀.Ns mainGlobals mg) (hv : mg x = some v) (h : Q v s) :
    wpAny M A (eval (.Name x pos) env) Q E s := by
  have hd : (x == ("__debug__" : Str)) = false := by
    cases q : x == ("__debug__" : Str) with
    | false => rfl
    | true => exact absurd (eq_of_beq q ▸ hx) O.ng
  exact Name_function_global O.kind (O.kg x hx) (loadGlobal_global (O.glob ▸ hn.keeps S.base) hv h) hd

theorem ldB {x : Str} {pos : Pos} {v : Value} {mg mb : Str → Option Value} {Q : Value → Shared → Prop} (S : St h₀ g z L K vals ms s) (O : EnvOk env L K Gs) (hx : x ∈ Gs) (hn : h₀.Ns mainGlobals mg) (hv : mg x = none)
    (hb : h₀.Ns builtinsNs mb) (hw : mb x = some v) (h : Q v s) : wpAny M A (eval (.Name x pos) env) Q E s := by
  have hd : (x == ("__debug__" : Str)) = false := by
    cases q : x == ("__debug__" : Str) with
    | false => rfl
    | true => exact absurd (eq_of_beq q ▸ hx) O.ng
  exact Name_function_global O.kind (O.kg x hx) (loadGlobal_builtin (O.glob ▸ hn.keeps S.base) hv (O.blt ▸ hb.keeps S.base) hw h) hd
end
end Mine

namespace Mine
section
variable {M : Model} {prog : Program} {w : World} {A : Around} {E : Value → Shared → Prop} {h₀ : Heap} {g : Shared} {z z' : PHeap} {L : Addr} {K Gs : List Str} {vals : List (Option Value)} {ms : List (Addr × Obj)} {s : Shared} {env : Env}
theorem ld0 {x : Str}  {v : Value} {Kr : List Str} {vr : List (Option Value)} {pos : Pos} {Q : Value → Shared → Prop} (S : St h₀ g z L (x :: Kr) (some v :: vr) ms s) (O : EnvOk env L (x :: Kr) Gs) (h : Q v s) :
    wpAny M A (eval (.Name x pos) env) Q E s := ldAt (i := 0) S O rfl rfl h
theorem st0 {x : Str}  {v : Option Value} {u : Value} {Kr : List Str} {vr : List (Option Value)} {Q : Unit → Shared → Prop} (S : St h₀ g z L (x :: Kr) (v :: vr) ms s) (O : EnvOk env L (x :: Kr) Gs) (h : ∀ s', 0 < s'.toks → St h₀ g z L (x :: Kr) (some u :: vr) ms s' → Q () s') :
    wpAny M A (storeName env x u) Q E s := stAt (i := 0) S O rfl (by simp) h
theorem ld1 {k0 x : Str} {v0 : Option Value} {v : Value} {Kr : List Str} {vr : List (Option Value)} {pos : Pos} {Q : Value → Shared → Prop} (S : St h₀ g z L (k0 :: x :: Kr) (v0 :: some v :: vr) ms s) (O : EnvOk env L (k0 :: x :: Kr) Gs) (h : Q v s) :
    wpAny M A (eval (.Name x pos) env) Q E s := ldAt (i := 1) S O rfl rfl h
theorem st1 {k0 x : Str} {v0 : Option Value} {v : Option Value} {u : Value} {Kr : List Str} {vr : List (Option Value)} {Q : Unit → Shared → Prop} (S : St h₀ g z L (k0 :: x :: Kr) (v0 :: v :: vr) ms s) (O : EnvOk env L (k0 :: x :: Kr) Gs) (h : ∀ s', 0 < s'.toks → St h₀ g z L (k0 :: x :: Kr) (v0 :: some u :: vr) ms s' → Q () s') :
    wpAny M A (storeName env x u) Q E s := stAt (i := 1) S O rfl (by simp) h
theorem ld2 {k0 k1 x : Str} {v0 v1 : Option Value} {v : Value} {Kr : List Str} {vr : List (Option Value)} {pos : Pos} {Q : Value → Shared → Prop} (S : St h₀ g z L (k0 :: k1 :: x :: Kr) (v0 :: v1 :: some v :: vr) ms s) (O : EnvOk env L (k0 :: k1 :: x :: Kr) Gs) (h : Q v s) :
    wpAny M A (eval (.Name x pos) env) Q E s := ldAt (i := 2) S O rfl rfl h
theorem st2 {k0 k1 x : Str} {v0 v1 : Option Value} {v : Option Value} {u : Value} {Kr : List Str} {vr : List (Option Value)} {Q : Unit → Shared → Prop} (S : St h₀ g z L (k0 :: k1 :: x :: Kr) (v0 :: v1 :: v :: vr) ms s) (O : EnvOk env L (k0 :: k1 :: x :: Kr) Gs) (h : ∀ s', 0 < s'.toks → St h₀ g z L (k0 :: k1 :: x :: Kr) (v0 :: v1 :: some u :: vr) ms s' → Q () s') :
    wpAny M A (storeName env x u) Q E s := stAt (i := 2) S O rfl (by simp) h
theorem ld3 {k0 k1 k2 x : Str} {v0 v1 v2 : Option Value} {v : Value} {Kr : List Str} {vr : List (Option Value)} {pos : Pos} {Q : Value → Shared → Prop} (S : St h₀ g z L (k0 :: k1 :: k2 :: x :: Kr) (v0 :: v1 :: v2 :: some v :: vr) ms s) (O : EnvOk env L (k0 :: k1 :: k2 :: x :: Kr) Gs) (h : Q v s) :
    wpAny M A (eval (.Name x pos) env) Q E s := ldAt (i := 3) S O rfl rfl h
theorem st3 {k0 k1 k2 x : Str} {v0 v1 v2 : Option Value} {v : Option Value} {u : Value} {Kr : List Str} {vr : List (Option Value)} {Q : Unit → Shared → Prop} (S : St h₀ g z L (k0 :: k1 :: k2 :: x :: Kr) (v0 :: v1 :: v2 :: v :: vr) ms s) (O : EnvOk env L (k0 :: k1 :: k2 :: x :: Kr) Gs) (h : ∀ s', 0 < s'.toks → St h₀ g z L (k0 :: k1 :: k2 :: x :: Kr) (v0 :: v1 :: v2 :: some u :: vr) ms s' → Q () s') :
    wpAny M A (storeName env x u) Q E s := stAt (i := 3) S O rfl (by simp) h
theorem ld4 {k0 k1 k2 k3 x : Str} {v0 v1 v2 v3 : Option Value} {v : Value} {Kr : List Str} {vr : List (Option Value)} {pos : Pos} {Q : Value → Shared → Prop} (S : St h₀ g z L (k0 :: k1 :: k2 :: k3 :: x :: Kr) (v0 :: v1 :: v2 :: v3 :: some v :: vr) ms s) (O : EnvOk env L (k0 :: k1 :: k2 :: k3 :: x :: Kr) Gs) (h : Q v s) :
    wpAny M A (eval (.Name x pos) env) Q E s := ldAt (i := 4) S O rfl rfl h
theorem st4 {k0 k1 k2 k3 x : Str} {v0 v1 v2 v3 : Option Value} {v : Option Value} {u : Value} {Kr : List Str} {vr : List (Option Value)} {Q : Unit → Shared → Prop} (S : St h₀ g z L (k0 :: k1 :: k2 :: k3 :: x :: Kr) (v0 :: v1 :: v2 :: v3 :: v :: vr) ms s) (O : EnvOk env L (k0 :: k1 :: k2 :: k3 :: x :: Kr) Gs) (h : ∀ s', 0 < s'.toks → St h₀ g z L (k0 :: k1 :: k2 :: k3 :: x :: Kr) (v0 :: v1 :: v2 :: v3 :: some u :: vr) ms s' → Q () s') :
    wpAny M A (storeName env x u) Q E s := stAt (i := 4) S O rfl (by simp) h
theorem ld5 {k0 k1 k2 k3 k4 x : Str} {v0 v1 v2 v3 v4 : Option Value} {v : Value} {Kr : List Str} {vr : List (Option Value)} {pos : Pos} {Q : Value → Shared → Prop} (S : St h₀ g z L (k0 :: k1 :: k2 :: k3 :: k4 :: x :: Kr) (v0 :: v1 :: v2 :: v3 :: v4 :: some v :: vr) ms s) (O : EnvOk env L (k0 :: k1 :: k2 :: k3 :: k4 :: x :: Kr) Gs) (h : Q v s) :
    wpAny M A (eval (.Name x pos) env) Q E s := ldAt (i := 5) S O rfl rfl h
theorem st5 {k0 k1 k2 k3 k4 x : Str} {v0 v1 v2 v3 v4 : Option Value} {v : Option Value} {u : Value} {Kr : List Str} {vr : List (Option Value)} {Q : Unit → Shared → Prop} (S : St h₀ g z L (k0 :: k1 :: k2 :: k3 :: k4 :: x :: Kr) (v0 :: v1 :: v2 :: v3 :: v4 :: v :: vr) ms s) (O : EnvOk env L (k0 :: k1 :: k2 :: k3 :: k4 :: x :: Kr) Gs) (h : ∀ s', 0 < s'.toks → St h₀ g z L (k0 :: k1 :: k2 :: k3 :: k4 :: x :: Kr) (v0 :: v1 :: v2 :: v3 :: v4 :: some u :: vr) ms s' → Q () s') :
    wpAny M A (storeName env x u) Q E s := stAt (i := 5) S O rfl (by simp) h
theorem ld6 {k0 k1 k2 k3 k4 k5 x : Str} {v0 v1 v2 v3 v4 v5 : Option Value} {v : Value} {Kr : List Str} {vr : List (Option Value)} {pos : Pos} {Q : Value → Shared → Prop} (S : St h₀ g z L (k0 :: k1 :: k2 :: k3 :: k4 :: k5 :: x :: Kr) (v0 :: v1 :: v2 :: v3 :: v4 :: v5 :: some v :: vr) ms s) (O : EnvOk env L (k0 :: k1 :: k2 :: k3 :: k4 :: k5 :: x :: Kr) Gs) (h : Q v s) :
    wpAny M A (eval (.Name x pos) env) Q E s := ldAt (i := 6) S O rfl rfl h
theorem st6 {k0 k1 k2 k3 k4 k5 x : Str} {v0 v1 v2 v3 v4 v5 : Option Value} {v : Option Value} {u : Value} {Kr : List Str} {vr : List (Option Value)} {Q : Unit → Shared → Prop} (S : St h₀ g z L (k0 :: k1 :: k2 :: k3 :: k4 :: k5 :: x :: Kr) (v0 :: v1 :: v2 :: v3 :: v4 :: v5 :: v :: vr) ms s) (O : EnvOk env L (k0 :: k1 :: k2 :: k3 :: k4 :: k5 :: x :: Kr) Gs) (h : ∀ s', 0 < s'.toks → St h₀ g z L (k0 :: k1 :: k2 :: k3 :: k4 :: k5 :: x :: Kr) (v0 :: v1 :: v2 :: v3 :: v4 :: v5 :: some u :: vr) ms s' → Q () s') :
    wpAny M A (storeName env x u) Q E s := stAt (i := 6) S O rfl (by simp) h
theorem ld7 {k0 k1 k2 k3 k4 k5 k6 x : Str} {v0 v1 v2 v3 v4 v5 v6 : Option Value} {v : Value} {Kr : List Str} {vr : List (Option Value)} {pos : Pos} {Q : Value → Shared → Prop} (S : St h₀ g z L (k0 :: k1 :: k2 :: k3 :: k4 :: k5 :: k6 :: x :: Kr) (v0 :: v1 :: v2 :: v3 :: v4 :: v5 :: v6 :: some v :: vr) ms s) (O : EnvOk env L (k0 :: k1 :: k2 :: k3 :: k4 :: k5 :: k6 :: x :: Kr) Gs) (h : Q v s) :
    wpAny M A (eval (.Name x pos) env) Q E s := ldAt (i := 7) S O rfl rfl h
theorem st7 {k0 k1 k2 k3 k4 k5 k6 x : Str} {v0 v1 v2 v3 v4 v5 v6 : Option Value} {v : Option Value} {u : Value} {Kr : List Str} {vr : List (Option Value)} {Q : Unit → Shared → Prop} (S : St h₀ g z L (k0 :: k1 :: k2 :: k3 :: k4 :: k5 :: k6 :: x :: Kr) (v0 :: v1 :: v2 :: v3 :: v4 :: v5 :: v6 :: v :: vr) ms s) (O : EnvOk env L (k0 :: k1 :: k2 :: k3 :: k4 :: k5 :: k6 :: x :: Kr) Gs) (h : ∀ s', 0 < s'.toks → St h₀ g z L (k0 :: k1 :: k2 :: k3 :: k4 :: k5 :: k6 :: x :: Kr) (v0 :: v1 :: v2 :: v3 :: v4 :: v5 :: v6 :: some u :: vr) ms s' → Q () s') :
    wpAny M A (storeName env x u) Q E s := stAt (i := 7) S O rfl (by simp) h
theorem ld8 {k0 k1 k2 k3 k4 k5 k6 k7 x : Str} {v0 v1 v2 v3 v4 v5 v6 v7 : Option Value} {v : Value} {Kr : List Str} {vr : List (Option Value)} {pos : Pos} {Q : Value → Shared → Prop} (S : St h₀ g z L (k0 :: k1 :: k2 :: k3 :: k4 :: k5 :: k6 :: k7 :: x :: Kr) (v0 :: v1 :: v2 :: v3 :: v4 :: v5 :: v6 :: v7 :: some v :: vr) ms s) (O : EnvOk env L (k0 :: k1 :: k2 :: k3 :: k4 :: k5 :: k6 :: k7 :: x :: Kr) Gs) (h : Q v s) :
    wpAny M A (eval (.Name x pos) env) Q E s := ldAt (i := 8) S O rfl rfl h
theorem st8 {k0 k1 k2 k3 k4 k5 k6 k7 x : Str} {v0 v1 v2 v3 v4 v5 v6 v7 : Option Value} {v : Option Value} {u : Value} {Kr : List Str} {vr : List (Option Value)} {Q : Unit → Shared → Prop} (S : St h₀ g z L (k0 :: k1 :: k2 :: k3 :: k4 :: k5 :: k6 :: k7 :: x :: Kr) (v0 :: v1 :: v2 :: v3 :: v4 :: v5 :: v6 :: v7 :: v :: vr) ms s) (O : EnvOk env L (k0 :: k1 :: k2 :: k3 :: k4 :: k5 :: k6 :: k7 :: x :: Kr) Gs) (h : ∀ s', 0 < s'.toks → St h₀ g z L (k0 :: k1 :: k2 :: k3 :: k4 :: k5 :: k6 :: k7 :: x :: Kr) (v0 :: v1 :: v2 :: v3 :: v4 :: v5 :: v6 :: v7 :: some u :: vr) ms s' → Q () s') :
    wpAny M A (storeName env x u) Q E s := stAt (i := 8) S O rfl (by simp) h
theorem ld9 {k0 k1 k2 k3 k4 k5 k6 k7 k8 x : Str} {v0 v1 v2 v3 v4 v5 v6 v7 v8 : Option Value} {v : Value} {Kr : List Str} {vr : List (Option Value)} {pos : Pos} {Q : Value → Shared → Prop} (S : St h₀ g z L (k0 :: k1 :: k2 :: k3 :: k4 :: k5 :: k6 :: k7 :: k8 :: x :: Kr) (v0 :: v1 :: v2 :: v3 :: v4 :: v5 :: v6 :: v7 :: v8 :: some v :: vr) ms s) (O : EnvOk env L (k0 :: k1 :: k2 :: k3 :: k4 :: k5 :: k6 :: k7 :: k8 :: x :: Kr) Gs) (h : Q v s) :
    wpAny M A (eval (.Name x pos) env) Q E s := ldAt (i := 9) S O rfl rfl h
theorem st9 {k0 k1 k2 k3 k4 k5 k6 k7 k8 x : Str} {v0 v1 v2 v3 v4 v5 v6 v7 v8 : Option Value} {v : Option Value} {u : Value} {Kr : List Str} {vr : List (Option Value)} {Q : Unit → Shared → Prop} (S : St h₀ g z L (k0 :: k1 :: k2 :: k3 :: k4 :: k5 :: k6 :: k7 :: k8 :: x :: Kr) (v0 :: v1 :: v2 :: v3 :: v4 :: v5 :: v6 :: v7 :: v8 :: v :: vr) ms s) (O : EnvOk env L (k0 :: k1 :: k2 :: k3 :: k4 :: k5 :: k6 :: k7 :: k8 :: x :: Kr) Gs) (h : ∀ s', 0 < s'.toks → St h₀ g z L (k0 :: k1 :: k2 :: k3 :: k4 :: k5 :: k6 :: k7 :: k8 :: x :: Kr) (v0 :: v1 :: v2 :: v3 :: v4 :: v5 :: v6 :: v7 :: v8 :: some u :: vr) ms s' → Q () s') :
    wpAny M A (storeName env x u) Q E s := stAt (i := 9) S O rfl (by simp) h
theorem ld10 {k0 k1 k2 k3 k4 k5 k6 k7 k8 k9 x : Str} {v0 v1 v2 v3 v4 v5 v6 v7 v8 v9 : Option Value} {v : Value} {Kr : List Str} {vr : List (Option Value)} {pos : Pos} {Q : Value → Shared → Prop} (S : St h₀ g z L (k0 :: k1 :: k2 :: k3 :: k4 :: k5 :: k6 :: k7 :: k8 :: k9 :: x :: Kr) (v0 :: v1 :: v2 :: v3 :: v4 :: v5 :: v6 :: v7 :: v8 :: v9 :: some v :: vr) ms s) (O : EnvOk env L (k0 :: k1 :: k2 :: k3 :: k4 :: k5 :: k6 :: k7 :: k8 :: k9 :: x :: Kr) Gs) (h : Q v s) :
    wpAny M A (eval (.Name x pos) env) Q E s := ldAt (i := 10) S O rfl rfl h
theorem st10 {k0 k1 k2 k3 k4 k5 k6 k7 k8 k9 x : Str} {v0 v1 v2 v3 v4 v5 v6 v7 v8 v9 : Option Value} {v : Option Value} {u : Value} {Kr : List Str} {vr : List (Option Value)} {Q : Unit → Shared → Prop} (S : St h₀ g z L (k0 :: k1 :: k2 :: k3 :: k4 :: k5 :: k6 :: k7 :: k8 :: k9 :: x :: Kr) (v0 :: v1 :: v2 :: v3 :: v4 :: v5 :: v6 :: v7 :: v8 :: v9 :: v :: vr) ms s) (O : EnvOk env L (k0 :: k1 :: k2 :: k3 :: k4 :: k5 :: k6 :: k7 :: k8 :: k9 :: x :: Kr) Gs) (h : ∀ s', 0 < s'.toks → St h₀ g z L (k0 :: k1 :: k2 :: k3 :: k4 :: k5 :: k6 :: k7 :: k8 :: k9 :: x :: Kr) (v0 :: v1 :: v2 :: v3 :: v4 :: v5 :: v6 :: v7 :: v8 :: v9 :: some u :: vr) ms s' → Q () s') :
    wpAny M A (storeName env x u) Q E s := stAt (i := 10) S O rfl (by simp) h
theorem ld11 {k0 k1 k2 k3 k4 k5 k6 k7 k8 k9 k10 x : Str} {v0 v1 v2 v3 v4 v5 v6 v7 v8 v9 v10 : Option Value} {v : Value} {Kr : List Str} {vr : List (Option Value)} {pos : Pos} {Q : Value → Shared → Prop} (S : St h₀ g z L (k0 :: k1 :: k2 :: k3 :: k4 :: k5 :: k6 :: k7 :: k8 :: k9 :: k10 :: x :: Kr) (v0 :: v1 :: v2 :: v3 :: v4 :: v5 :: v6 :: v7 :: v8 :: v9 :: v10 :: some v :: vr) ms s) (O : EnvOk env L (k0 :: k1 :: k2 :: k3 :: k4 :: k5 :: k6 :: k7 :: k8 :: k9 :: k10 :: x :: Kr) Gs) (h : Q v s) :
    wpAny M A (eval (.Name x pos) env) Q E s := ldAt (i := 11) S O rfl rfl h
theorem st11 {k0 k1 k2 k3 k4 k5 k6 k7 k8 k9 k10 x : Str} {v0 v1 v2 v3 v4 v5 v6 v7 v8 v9 v10 : Option Value} {v : Option Value} {u : Value} {Kr : List Str} {vr : List (Option Value)} {Q : Unit → Shared → Prop} (S : St h₀ g z L (k0 :: k1 :: k2 :: k3 :: k4 :: k5 :: k6 :: k7 :: k8 :: k9 :: k10 :: x :: Kr) (v0 :: v1 :: v2 :: v3 :: v4 :: v5 :: v6 :: v7 :: v8 :: v9 :: v10 :: v :: vr) ms s) (O : EnvOk env L (k0 :: k1 :: k2 :: k3 :: k4 :: k5 :: k6 :: k7 :: k8 :: k9 :: k10 :: x :: Kr) Gs) (h : ∀ s', 0 < s'.toks → St h₀ g z L (k0 :: k1 :: k2 :: k3 :: k4 :: k5 :: k6 :: k7 :: k8 :: k9 :: k10 :: x :: Kr) (v0 :: v1 :: v2 :: v3 :: v4 :: v5 :: v6 :: v7 :: v8 :: v9 :: v10 :: some u :: vr) ms s' → Q () s') :
    wpAny M A (storeName env x u) Q E s := stAt (i := 11) S O rfl (by simp) h
theorem ld12 {k0 k1 k2 k3 k4 k5 k6 k7 k8 k9 k10 k11 x : Str} {v0 v1 v2 v3 v4 v5 v6 v7 v8 v9 v10 v11 : Option Value} {v : Value} {Kr : List Str} {vr : List (Option Value)} {pos : Pos} {Q : Value → Shared → Prop} (S : St h₀ g z L (k0 :: k1 :: k2 :: k3 :: k4 :: k5 :: k6 :: k7 :: k8 :: k9 :: k10 :: k11 :: x :: Kr) (v0 :: v1 :: v2 :: v3 :: v4 :: v5 :: v6 :: v7 :: v8 :: v9 :: v10 :: v11 :: some v :: vr) ms s) (O : EnvOk env L (k0 :: k1 :: k2 :: k3 :: k4 :: k5 :: k6 :: k7 :: k8 :: k9 :: k10 :: k11 :: x :: Kr) Gs) (h : Q v s) :
    wpAny M A (eval (.Name x pos) env) Q E s := ldAt (i := 12) S O rfl rfl h
theorem st12 {k0 k1 k2 k3 k4 k5 k6 k7 k8 k9 k10 k11 x : Str} {v0 v1 v2 v3 v4 v5 v6 v7 v8 v9 v10 v11 : Option Value} {v : Option Value} {u : Value} {Kr : List Str} {vr : List (Option Value)} {Q : Unit → Shared → Prop} (S : St h₀ g z L (k0 :: k1 :: k2 :: k3 :: k4 :: k5 :: k6 :: k7 :: k8 :: k9 :: k10 :: k11 :: x :: Kr) (v0 :: v1 :: v2 :: v3 :: v4 :: v5 :: v6 :: v7 :: v8 :: v9 :: v10 :: v11 :: v :: vr) ms s) (O : EnvOk env L (k0 :: k1 :: k2 :: k3 :: k4 :: k5 :: k6 :: k7 :: k8 :: k9 :: k10 :: k11 :: x :: Kr) Gs) (h : ∀ s', 0 < s'.toks → St h₀ g z L (k0 :: k1 :: k2 :: k3 :: k4 :: k5 :: k6 :: k7 :: k8 :: k9 :: k10 :: k11 :: x :: Kr) (v0 :: v1 :: v2 :: v3 :: v4 :: v5 :: v6 :: v7 :: v8 :: v9 :: v10 :: v11 :: some u :: vr) ms s' → Q () s') :
    wpAny M A (storeName env x u) Q E s := stAt (i := 12) S O rfl (by simp) h
theorem ld13 {k0 k1 k2 k3 k4 k5 k6 k7 k8 k9 k10 k11 k12 x : Str} {v0 v1 v2 v3 v4 v5 v6 v7 v8 v9 v10 v11 v12 : Option Value} {v : Value} {Kr : List Str} {vr : List (Option Value)} {pos : Pos} {Q : Value → Shared → Prop} (S : St h₀ g z L (k0 :: k1 :: k2 :: k3 :: k4 :: k5 :: k6 :: k7 :: k8 :: k9 :: k10 :: k11 :: k12 :: x :: Kr) (v0 :: v1 :: v2 :: v3 :: v4 :: v5 :: v6 :: v7 :: v8 :: v9 :: v10 :: v11 :: v12 :: some v :: vr) ms s) (O : EnvOk env L (k0 :: k1 :: k2 :: k3 :: k4 :: k5 :: k6 :: k7 :: k8 :: k9 :: k10 :: k11 :: k12 :: x :: Kr) Gs) (h : Q v s) :
    wpAny M A (eval (.Name x pos) env) Q E s := ldAt (i := 13) S O rfl rfl h
theorem st13 {k0 k1 k2 k3 k4 k5 k6 k7 k8 k9 k10 k11 k12 x : Str} {v0 v1 v2 v3 v4 v5 v6 v7 v8 v9 v10 v11 v12 : Option Value} {v : Option Value} {u : Value} {Kr : List Str} {vr : List (Option Value)} {Q : Unit → Shared → Prop} (S : St h₀ g z L (k0 :: k1 :: k2 :: k3 :: k4 :: k5 :: k6 :: k7 :: k8 :: k9 :: k10 :: k11 :: k12 :: x :: Kr) (v0 :: v1 :: v2 :: v3 :: v4 :: v5 :: v6 :: v7 :: v8 :: v9 :: v10 :: v11 :: v12 :: v :: vr) ms s) (O : EnvOk env L (k0 :: k1 :: k2 :: k3 :: k4 :: k5 :: k6 :: k7 :: k8 :: k9 :: k10 :: k11 :: k12 :: x :: Kr) Gs) (h : ∀ s', 0 < s'.toks → St h₀ g z L (k0 :: k1 :: k2 :: k3 :: k4 :: k5 :: k6 :: k7 :: k8 :: k9 :: k10 :: k11 :: k12 :: x :: Kr) (v0 :: v1 :: v2 :: v3 :: v4 :: v5 :: v6 :: v7 :: v8 :: v9 :: v10 :: v11 :: v12 :: some u :: vr) ms s' → Q () s') :
    wpAny M A (storeName env x u) Q E s := stAt (i := 13) S O rfl (by simp) h
theorem ld14 {k0 k1 k2 k3 k4 k5 k6 k7 k8 k9 k10 k11 k12 k13 x : Str} {v0 v1 v2 v3 v4 v5 v6 v7 v8 v9 v10 v11 v12 v13 : Option Value} {v : Value} {Kr : List Str} {vr : List (Option Value)} {pos : Pos} {Q : Value → Shared → Prop} (S : St h₀ g z L (k0 :: k1 :: k2 :: k3 :: k4 :: k5 :: k6 :: k7 :: k8 :: k9 :: k10 :: k11 :: k12 :: k13 :: x :: Kr) (v0 :: v1 :: v2 :: v3 :: v4 :: v5 :: v6 :: v7 :: v8 :: v9 :: v10 :: v11 :: v12 :: v13 :: some v :: vr) ms s) (O : EnvOk env L (k0 :: k1 :: k2 :: k3 :: k4 :: k5 :: k6 :: k7 :: k8 :: k9 :: k10 :: k11 :: k12 :: k13 :: x :: Kr) Gs) (h : Q v s) :
    wpAny M A (eval (.Name x pos) env) Q E s := ldAt (i := 14) S O rfl rfl h
theorem st14 {k0 k1 k2 k3 k4 k5 k6 k7 k8 k9 k10 k11 k12 k13 x : Str} {v0 v1 v2 v3 v4 v5 v6 v7 v8 v9 v10 v11 v12 v13 : Option Value} {v : Option Value} {u : Value} {Kr : List Str} {vr : List (Option Value)} {Q : Unit → Shared → Prop} (S : St h₀ g z L (k0 :: k1 :: k2 :: k3 :: k4 :: k5 :: k6 :: k7 :: k8 :: k9 :: k10 :: k11 :: k12 :: k13 :: x :: Kr) (v0 :: v1 :: v2 :: v3 :: v4 :: v5 :: v6 :: v7 :: v8 :: v9 :: v10 :: v11 :: v12 :: v13 :: v :: vr) ms s) (O : EnvOk env L (k0 :: k1 :: k2 :: k3 :: k4 :: k5 :: k6 :: k7 :: k8 :: k9 :: k10 :: k11 :: k12 :: k13 :: x :: Kr) Gs) (h : ∀ s', 0 < s'.toks → St h₀ g z L (k0 :: k1 :: k2 :: k3 :: k4 :: k5 :: k6 :: k7 :: k8 :: k9 :: k10 :: k11 :: k12 :: k13 :: x :: Kr) (v0 :: v1 :: v2 :: v3 :: v4 :: v5 :: v6 :: v7 :: v8 :: v9 :: v10 :: v11 :: v12 :: v13 :: some u :: vr) ms s' → Q () s') :
    wpAny M A (storeName env x u) Q E s := stAt (i := 14) S O rfl (by simp) h
theorem ld15 {k0 k1 k2 k3 k4 k5 k6 k7 k8 k9 k10 k11 k12 k13 k14 x : Str} {v0 v1 v2 v3 v4 v5 v6 v7 v8 v9 v10 v11 v12 v13 v14 : Option Value} {v : Value} {Kr : List Str} {vr : List (Option Value)} {pos : Pos} {Q : Value → Shared → Prop} (S : St h₀ g z L (k0 :: k1 :: k2 :: k3 :: k4 :: k5 :: k6 :: k7 :: k8 :: k9 :: k10 :: k11 :: k12 :: k13 :: k14 :: x :: Kr) (v0 :: v1 :: v2 :: v3 :: v4 :: v5 :: v6 :: v7 :: v8 :: v9 :: v10 :: v11 :: v12 :: v13 :: v14 :: some v :: vr) ms s) (O : EnvOk env L (k0 :: k1 :: k2 :: k3 :: k4 :: k5 :: k6 :: k7 :: k8 :: k9 :: k10 :: k11 :: k12 :: k13 :: k14 :: x :: Kr) Gs) (h : Q v s) :
    wpAny M A (eval (.Name x pos) env) Q E s := ldAt (i := 15) S O rfl rfl h
theorem st15 {k0 k1 k2 k3 k4 k5 k6 k7 k8 k9 k10 k11 k12 k13 k14 x : Str} {v0 v1 v2 v3 v4 v5 v6 v7 v8 v9 v10 v11 v12 v13 v14 : Option Value} {v : Option Value} {u : Value} {Kr : List Str} {vr : List (Option Value)} {Q : Unit → Shared → Prop} (S : St h₀ g z L (k0 :: k1 :: k2 :: k3 :: k4 :: k5 :: k6 :: k7 :: k8 :: k9 :: k10 :: k11 :: k12 :: k13 :: k14 :: x :: Kr) (v0 :: v1 :: v2 :: v3 :: v4 :: v5 :: v6 :: v7 :: v8 :: v9 :: v10 :: v11 :: v12 :: v13 :: v14 :: v :: vr) ms s) (O : EnvOk env L (k0 :: k1 :: k2 :: k3 :: k4 :: k5 :: k6 :: k7 :: k8 :: k9 :: k10 :: k11 :: k12 :: k13 :: k14 :: x :: Kr) Gs) (h : ∀ s', 0 < s'.toks → St h₀ g z L (k0 :: k1 :: k2 :: k3 :: k4 :: k5 :: k6 :: k7 :: k8 :: k9 :: k10 :: k11 :: k12 :: k13 :: k14 :: x :: Kr) (v0 :: v1 :: v2 :: v3 :: v4 :: v5 :: v6 :: v7 :: v8 :: v9 :: v10 :: v11 :: v12 :: v13 :: v14 :: some u :: vr) ms s' → Q () s') :
    wpAny M A (storeName env x u) Q E s := stAt (i := 15) S O rfl (by simp) h
theorem ld16 {k0 k1 k2 k3 k4 k5 k6 k7 k8 k9 k10 k11 k12 k13 k14 k15 x : Str} {v0 v1 v2 v3 v4 v5 v6 v7 v8 v9 v10 v11 v12 v13 v14 v15 : Option Value} {v : Value} {Kr : List Str} {vr : List (Option Value)} {pos : Pos} {Q : Value → Shared → Prop} (S : St h₀ g z L (k0 :: k1 :: k2 :: k3 :: k4 :: k5 :: k6 :: k7 :: k8 :: k9 :: k10 :: k11 :: k12 :: k13 :: k14 :: k15 :: x :: Kr) (v0 :: v1 :: v2 :: v3 :: v4 :: v5 :: v6 :: v7 :: v8 :: v9 :: v10 :: v11 :: v12 :: v13 :: v14 :: v15 :: some v :: vr) ms s) (O : EnvOk env L (k0 :: k1 :: k2 :: k3 :: k4 :: k5 :: k6 :: k7 :: k8 :: k9 :: k10 :: k11 :: k12 :: k13 :: k14 :: k15 :: x :: Kr) Gs) (h : Q v s) :
    wpAny M A (eval (.Name x pos) env) Q E s := ldAt (i := 16) S O rfl rfl h
theorem st16 {k0 k1 k2 k3 k4 k5 k6 k7 k8 k9 k10 k11 k12 k13 k14 k15 x : Str} {v0 v1 v2 v3 v4 v5 v6 v7 v8 v9 v10 v11 v12 v13 v14 v15 : Option Value} {v : Option Value} {u : Value} {Kr : List Str} {vr : List (Option Value)} {Q : Unit → Shared → Prop} (S : St h₀ g z L (k0 :: k1 :: k2 :: k3 :: k4 :: k5 :: k6 :: k7 :: k8 :: k9 :: k10 :: k11 :: k12 :: k13 :: k14 :: k15 :: x :: Kr) (v0 :: v1 :: v2 :: v3 :: v4 :: v5 :: v6 :: v7 :: v8 :: v9 :: v10 :: v11 :: v12 :: v13 :: v14 :: v15 :: v :: vr) ms s) (O : EnvOk env L (k0 :: k1 :: k2 :: k3 :: k4 :: k5 :: k6 :: k7 :: k8 :: k9 :: k10 :: k11 :: k12 :: k13 :: k14 :: k15 :: x :: Kr) Gs) (h : ∀ s', 0 < s'.toks → St h₀ g z L (k0 :: k1 :: k2 :: k3 :: k4 :: k5 :: k6 :: k7 :: k8 :: k9 :: k10 :: k11 :: k12 :: k13 :: k14 :: k15 :: x :: Kr) (v0 :: v1 :: v2 :: v3 :: v4 :: v5 :: v6 :: v7 :: v8 :: v9 :: v10 :: v11 :: v12 :: v13 :: v14 :: v15 :: some u :: vr) ms s' → Q () s') :
    wpAny M A (storeName env x u) Q E s := stAt (i := 16) S O rfl (by simp) h
theorem ld17 {k0 k1 k2 k3 k4 k5 k6 k7 k8 k9 k10 k11 k12 k13 k14 k15 k16 x : Str} {v0 v1 v2 v3 v4 v5 v6 v7 v8 v9 v10 v11 v12 v13 v14 v15 v16 : Option Value} {v : Value} {Kr : List Str} {vr : List (Option Value)} {pos : Pos} {Q : Value → Shared → Prop} (S : St h₀ g z L (k0 :: k1 :: k2 :: k3 :: k4 :: k5 :: k6 :: k7 :: k8 :: k9 :: k10 :: k11 :: k12 :: k13 :: k14 :: k15 :: k16 :: x :: Kr) (v0 :: v1 :: v2 :: v3 :: v4 :: v5 :: v6 :: v7 :: v8 :: v9 :: v10 :: v11 :: v12 :: v13 :: v14 :: v15 :: v16 :: some v :: vr) ms s) (O : EnvOk env L (k0 :: k1 :: k2 :: k3 :: k4 :: k5 :: k6 :: k7 :: k8 :: k9 :: k10 :: k11 :: k12 :: k13 :: k14 :: k15 :: k16 :: x :: Kr) Gs) (h : Q v s) :
    wpAny M A (eval (.Name x pos) env) Q E s := ldAt (i := 17) S O rfl rfl h
theorem st17 {k0 k1 k2 k3 k4 k5 k6 k7 k8 k9 k10 k11 k12 k13 k14 k15 k16 x : Str} {v0 v1 v2 v3 v4 v5 v6 v7 v8 v9 v10 v11 v12 v13 v14 v15 v16 : Option Value} {v : Option Value} {u : Value} {Kr : List Str} {vr : List (Option Value)} {Q : Unit → Shared → Prop} (S : St h₀ g z L (k0 :: k1 :: k2 :: k3 :: k4 :: k5 :: k6 :: k7 :: k8 :: k9 :: k10 :: k11 :: k12 :: k13 :: k14 :: k15 :: k16 :: x :: Kr) (v0 :: v1 :: v2 :: v3 :: v4 :: v5 :: v6 :: v7 :: v8 :: v9 :: v10 :: v11 :: v12 :: v13 :: v14 :: v15 :: v16 :: v :: vr) ms s) (O : EnvOk env L (k0 :: k1 :: k2 :: k3 :: k4 :: k5 :: k6 :: k7 :: k8 :: k9 :: k10 :: k11 :: k12 :: k13 :: k14 :: k15 :: k16 :: x :: Kr) Gs) (h : ∀ s', 0 < s'.toks → St h₀ g z L (k0 :: k1 :: k2 :: k3 :: k4 :: k5 :: k6 :: k7 :: k8 :: k9 :: k10 :: k11 :: k12 :: k13 :: k14 :: k15 :: k16 :: x :: Kr) (v0 :: v1 :: v2 :: v3 :: v4 :: v5 :: v6 :: v7 :: v8 :: v9 :: v10 :: v11 :: v12 :: v13 :: v14 :: v15 :: v16 :: some u :: vr) ms s' → Q () s') :
    wpAny M A (storeName env x u) Q E s := stAt (i := 17) S O rfl (by simp) h
theorem ld18 {k0 k1 k2 k3 k4 k5 k6 k7 k8 k9 k10 k11 k12 k13 k14 k15 k16 k17 x : Str} {v0 v1 v2 v3 v4 v5 v6 v7 v8 v9 v10 v11 v12 v13 v14 v15 v16 v17 : Option Value} {v : Value} {Kr : List Str} {vr : List (Option Value)} {pos : Pos} {Q : Value → Shared → Prop} (S : St h₀ g z L (k0 :: k1 :: k2 :: k3 :: k4 :: k5 :: k6 :: k7 :: k8 :: k9 :: k10 :: k11 :: k12 :: k13 :: k14 :: k15 :: k16 :: k17 :: x :: Kr) (v0 :: v1 :: v2 :: v3 :: v4 :: v5 :: v6 :: v7 :: v8 :: v9 :: v10 :: v11 :: v12 :: v13 :: v14 :: v15 :: v16 :: v17 :: some v :: vr) ms s) (O : EnvOk env L (k0 :: k1 :: k2 :: k3 :: k4 :: k5 :: k6 :: k7 :: k8 :: k9 :: k10 :: k11 :: k12 :: k13 :: k14 :: k15 :: k16 :: k17 :: x :: Kr) Gs) (h : Q v s) :
    wpAny M A (eval (.Name x pos) env) Q E s := ldAt (i := 18) S O rfl rfl h
theorem st18 {k0 k1 k2 k3 k4 k5 k6 k7 k8 k9 k10 k11 k12 k13 k14 k15 k16 k17 x : Str} {v0 v1 v2 v3 v4 v5 v6 v7 v8 v9 v10 v11 v12 v13 v14 v15 v16 v17 : Option Value} {v : Option Value} {u : Value} {Kr : List Str} {vr : List (Option Value)} {Q : Unit → Shared → Prop} (S : St h₀ g z L (k0 :: k1 :: k2 :: k3 :: k4 :: k5 :: k6 :: k7 :: k8 :: k9 :: k10 :: k11 :: k12 :: k13 :: k14 :: k15 :: k16 :: k17 :: x :: Kr) (v0 :: v1 :: v2 :: v3 :: v4 :: v5 :: v6 :: v7 :: v8 :: v9 :: v10 :: v11 :: v12 :: v13 :: v14 :: v15 :: v16 :: v17 :: v :: vr) ms s) (O : EnvOk env L (k0 :: k1 :: k2 :: k3 :: k4 :: k5 :: k6 :: k7 :: k8 :: k9 :: k10 :: k11 :: k12 :: k13 :: k14 :: k15 :: k16 :: k17 :: x :: Kr) Gs) (h : ∀ s', 0 < s'.toks → St h₀ g z L (k0 :: k1 :: k2 :: k3 :: k4 :: k5 :: k6 :: k7 :: k8 :: k9 :: k10 :: k11 :: k12 :: k13 :: k14 :: k15 :: k16 :: k17 :: x :: Kr) (v0 :: v1 :: v2 :: v3 :: v4 :: v5 :: v6 :: v7 :: v8 :: v9 :: v10 :: v11 :: v12 :: v13 :: v14 :: v15 :: v16 :: v17 :: some u :: vr) ms s' → Q () s') :
    wpAny M A (storeName env x u) Q E s := stAt (i := 18) S O rfl (by simp) h
theorem ld19 {k0 k1 k2 k3 k4 k5 k6 k7 k8 k9 k10 k11 k12 k13 k14 k15 k16 k17 k18 x : Str} {v0 v1 v2 v3 v4 v5 v6 v7 v8 v9 v10 v11 v12 v13 v14 v15 v16 v17 v18 : Option Value} {v : Value} {Kr : List Str} {vr : List (Option Value)} {pos : Pos} {Q : Value → Shared → Prop} (S : St h₀ g z L (k0 :: k1 :: k2 :: k3 :: k4 :: k5 :: k6 :: k7 :: k8 :: k9 :: k10 :: k11 :: k12 :: k13 :: k14 :: k15 :: k16 :: k17 :: k18 :: x :: Kr) (v0 :: v1 :: v2 :: v3 :: v4 :: v5 :: v6 :: v7 :: v8 :: v9 :: v10 :: v11 :: v12 :: v13 :: v14 :: v15 :: v16 :: v17 :: v18 :: some v :: vr) ms s) (O : EnvOk env L (k0 :: k1 :: k2 :: k3 :: k4 :: k5 :: k6 :: k7 :: k8 :: k9 :: k10 :: k11 :: k12 :: k13 :: k14 :: k15 :: k16 :: k17 :: k18 :: x :: Kr) Gs) (h : Q v s) :
    wpAny M A (eval (.Name x pos) env) Q E s := ldAt (i := 19) S O rfl rfl h
theorem st19 {k0 k1 k2 k3 k4 k5 k6 k7 k8 k9 k10 k11 k12 k13 k14 k15 k16 k17 k18 x : Str} {v0 v1 v2 v3 v4 v5 v6 v7 v8 v9 v10 v11 v12 v13 v14 v15 v16 v17 v18 : Option Value} {v : Option Value} {u : Value} {Kr : List Str} {vr : List (Option Value)} {Q : Unit → Shared → Prop} (S : St h₀ g z L (k0 :: k1 :: k2 :: k3 :: k4 :: k5 :: k6 :: k7 :: k8 :: k9 :: k10 :: k11 :: k12 :: k13 :: k14 :: k15 :: k16 :: k17 :: k18 :: x :: Kr) (v0 :: v1 :: v2 :: v3 :: v4 :: v5 :: v6 :: v7 :: v8 :: v9 :: v10 :: v11 :: v12 :: v13 :: v14 :: v15 :: v16 :: v17 :: v18 :: v :: vr) ms s) (O : EnvOk env L (k0 :: k1 :: k2 :: k3 :: k4 :: k5 :: k6 :: k7 :: k8 :: k9 :: k10 :: k11 :: k12 :: k13 :: k14 :: k15 :: k16 :: k17 :: k18 :: x :: Kr) Gs) (h : ∀ s', 0 < s'.toks → St h₀ g z L (k0 :: k1 :: k2 :: k3 :: k4 :: k5 :: k6 :: k7 :: k8 :: k9 :: k10 :: k11 :: k12 :: k13 :: k14 :: k15 :: k16 :: k17 :: k18 :: x :: Kr) (v0 :: v1 :: v2 :: v3 :: v4 :: v5 :: v6 :: v7 :: v8 :: v9 :: v10 :: v11 :: v12 :: v13 :: v14 :: v15 :: v16 :: v17 :: v18 :: some u :: vr) ms s' → Q () s') :
    wpAny M A (storeName env x u) Q E s := stAt (i := 19) S O rfl (by simp) h
theorem ld20 {k0 k1 k2 k3 k4 k5 k6 k7 k8 k9 k10 k11 k12 k13 k14 k15 k16 k17 k18 k19 x : Str} {v0 v1 v2 v3 v4 v5 v6 v7 v8 v9 v10 v11 v12 v13 v14 v15 v16 v17 v18 v19 : Option Value} {v : Value} {Kr : List Str} {vr : List (Option Value)} {pos : Pos} {Q : Value → Shared → Prop} (S : St h₀ g z L (k0 :: k1 :: k2 :: k3 :: k4 :: k5 :: k6 :: k7 :: k8 :: k9 :: k10 :: k11 :: k12 :: k13 :: k14 :: k15 :: k16 :: k17 :: k18 :: k19 :: x :: Kr) (v0 :: v1 :: v2 :: v3 :: v4 :: v5 :: v6 :: v7 :: v8 :: v9 :: v10 :: v11 :: v12 :: v13 :: v14 :: v15 :: v16 :: v17 :: v18 :: v19 :: some v :: vr) ms s) (O : EnvOk env L (k0 :: k1 :: k2 :: k3 :: k4 :: k5 :: k6 :: k7 :: k8 :: k9 :: k10 :: k11 :: k12 :: k13 :: k14 :: k15 :: k16 :: k17 :: k18 :: k19 :: x :: Kr) Gs) (h : Q v s) :
    wpAny M A (eval (.Name x pos) env) Q E s := ldAt (i := 20) S O rfl rfl h
theorem st20 {k0 k1 k2 k3 k4 k5 k6 k7 k8 k9 k10 k11 k12 k13 k14 k15 k16 k17 k18 k19 x : Str} {v0 v1 v2 v3 v4 v5 v6 v7 v8 v9 v10 v11 v12 v13 v14 v15 v16 v17 v18 v19 : Option Value} {v : Option Value} {u : Value} {Kr : List Str} {vr : List (Option Value)} {Q : Unit → Shared → Prop} (S : St h₀ g z L (k0 :: k1 :: k2 :: k3 :: k4 :: k5 :: k6 :: k7 :: k8 :: k9 :: k10 :: k11 :: k12 :: k13 :: k14 :: k15 :: k16 :: k17 :: k18 :: k19 :: x :: Kr) (v0 :: v1 :: v2 :: v3 :: v4 :: v5 :: v6 :: v7 :: v8 :: v9 :: v10 :: v11 :: v12 :: v13 :: v14 :: v15 :: v16 :: v17 :: v18 :: v19 :: v :: vr) ms s) (O : EnvOk env L (k0 :: k1 :: k2 :: k3 :: k4 :: k5 :: k6 :: k7 :: k8 :: k9 :: k10 :: k11 :: k12 :: k13 :: k14 :: k15 :: k16 :: k17 :: k18 :: k19 :: x :: Kr) Gs) (h : ∀ s', 0 < s'.toks → St h₀ g z L (k0 :: k1 :: k2 :: k3 :: k4 :: k5 :: k6 :: k7 :: k8 :: k9 :: k10 :: k11 :: k12 :: k13 :: k14 :: k15 :: k16 :: k17 :: k18 :: k19 :: x :: Kr) (v0 :: v1 :: v2 :: v3 :: v4 :: v5 :: v6 :: v7 :: v8 :: v9 :: v10 :: v11 :: v12 :: v13 :: v14 :: v15 :: v16 :: v17 :: v18 :: v19 :: some u :: vr) ms s' → Q () s') :
    wpAny M A (storeName env x u) Q E s := stAt (i := 20) S O rfl (by simp) h
theorem ld21 {k0 k1 k2 k3 k4 k5 k6 k7 k8 k9 k10 k11 k12 k13 k14 k15 k16 k17 k18 k19 k20 x : Str} {v0 v1 v2 v3 v4 v5 v6 v7 v8 v9 v10 v11 v12 v13 v14 v15 v16 v17 v18 v19 v20 : Option Value} {v : Value} {Kr : List Str} {vr : List (Option Value)} {pos : Pos} {Q : Value → Shared → Prop} (S : St h₀ g z L (k0 :: k1 :: k2 :: k3 :: k4 :: k5 :: k6 :: k7 :: k8 :: k9 :: k10 :: k11 :: k12 :: k13 :: k14 :: k15 :: k16 :: k17 :: k18 :: k19 :: k20 :: x :: Kr) (v0 :: v1 :: v2 :: v3 :: v4 :: v5 :: v6 :: v7 :: v8 :: v9 :: v10 :: v11 :: v12 :: v13 :: v14 :: v15 :: v16 :: v17 :: v18 :: v19 :: v20 :: some v :: vr) ms s) (O : EnvOk env L (k0 :: k1 :: k2 :: k3 :: k4 :: k5 :: k6 :: k7 :: k8 :: k9 :: k10 :: k11 :: k12 :: k13 :: k14 :: k15 :: k16 :: k17 :: k18 :: k19 :: k20 :: x :: Kr) Gs) (h : Q v s) :
    wpAny M A (eval (.Name x pos) env) Q E s := ldAt (i := 21) S O rfl rfl h
theorem st21 {k0 k1 k2 k3 k4 k5 k6 k7 k8 k9 k10 k11 k12 k13 k14 k15 k16 k17 k18 k19 k20 x : Str} {v0 v1 v2 v3 v4 v5 v6 v7 v8 v9 v10 v11 v12 v13 v14 v15 v16 v17 v18 v19 v20 : Option Value} {v : Option Value} {u : Value} {Kr : List Str} {vr : List (Option Value)} {Q : Unit → Shared → Prop} (S : St h₀ g z L (k0 :: k1 :: k2 :: k3 :: k4 :: k5 :: k6 :: k7 :: k8 :: k9 :: k10 :: k11 :: k12 :: k13 :: k14 :: k15 :: k16 :: k17 :: k18 :: k19 :: k20 :: x :: Kr) (v0 :: v1 :: v2 :: v3 :: v4 :: v5 :: v6 :: v7 :: v8 :: v9 :: v10 :: v11 :: v12 :: v13 :: v14 :: v15 :: v16 :: v17 :: v18 :: v19 :: v20 :: v :: vr) ms s) (O : EnvOk env L (k0 :: k1 :: k2 :: k3 :: k4 :: k5 :: k6 :: k7 :: k8 :: k9 :: k10 :: k11 :: k12 :: k13 :: k14 :: k15 :: k16 :: k17 :: k18 :: k19 :: k20 :: x :: Kr) Gs) (h : ∀ s', 0 < s'.toks → St h₀ g z L (k0 :: k1 :: k2 :: k3 :: k4 :: k5 :: k6 :: k7 :: k8 :: k9 :: k10 :: k11 :: k12 :: k13 :: k14 :: k15 :: k16 :: k17 :: k18 :: k19 :: k20 :: x :: Kr) (v0 :: v1 :: v2 :: v3 :: v4 :: v5 :: v6 :: v7 :: v8 :: v9 :: v10 :: v11 :: v12 :: v13 :: v14 :: v15 :: v16 :: v17 :: v18 :: v19 :: v20 :: some u :: vr) ms s' → Q () s') :
    wpAny M A (storeName env x u) Q E s := stAt (i := 21) S O rfl (by simp) h

theorem iteB {c : Bool} {P R : Prop} (h1 : c = true → P) (h2 : c = false → R) : if c = true then P else R := by
  cases c with
  | true => exact h1 rfl
  | false => exact h2 rfl

def NextQ (P : Shared → Prop) (Q : Flow → Shared → Prop) : Flow → Shared → Prop
  | .next, s => P s
  | f, s => Q f s
theorem exC {st : Stmt} {rest : List Stmt} {Q : Flow → Shared → Prop} (h : wpAny M A (exec st env) (NextQ (fun s' => wpAny M A (execs rest env) Q E s') Q) E s) : wpAny M A (execs (st :: rest) env) Q E s :=
  wpAny_execs_cons (wpAny_mono h (fun f s' h' => by cases f <;> exact h') fun _ _ e => e)
theorem exJ {st : Stmt} {rest : List Stmt} {Q : Flow → Shared → Prop} (J : Shared → Prop) (h1 : ∀ Q' : Flow → Shared → Prop, (∀ s', J s' → Q' .next s') → wpAny M A (exec st env) Q' E s)
    (h2 : ∀ s', J s' → wpAny M A (execs rest env) Q E s') : wpAny M A (execs (st :: rest) env) Q E s :=
  exC (h1 _ h2)
theorem exJR {st : Stmt} {rest : List Stmt} {Q : Flow → Shared → Prop} (J : Shared → Prop) (h1 : ∀ Q' : Flow → Shared → Prop, (∀ s', J s' → Q' .next s') → (∀ v s', Q (.ret v) s' → Q' (.ret v) s') → wpAny M A (exec st env) Q' E s)
    (h2 : ∀ s', J s' → wpAny M A (execs rest env) Q E s') : wpAny M A (execs (st :: rest) env) Q E s :=
  exC (h1 _ h2 fun _ _ h => h)
theorem iteT {P R : Prop} (h : P) : if true = true then P else R := h
theorem iteF {P R : Prop} (h : R) : if false = true then P else R := h
theorem nqN {P : Shared → Prop} {Q : Flow → Shared → Prop} (h : P s) : NextQ P Q .next s := h
theorem nqB {P : Shared → Prop} {Q : Flow → Shared → Prop} (h : Q .brk s) : NextQ P Q .brk s := h
theorem nqR {P : Shared → Prop} {Q : Flow → Shared → Prop} {v : Value} (h : Q (.ret v) s) : NextQ P Q (.ret v) s := h
def TurnQ (C : Shared → Prop) (Q : Flow → Shared → Prop) : Flow → Shared → Prop
  | .next, s | .cont, s => C s
  | .brk, s => Q .next s
  | .ret v, s => Q (.ret v) s
theorem tqN {C : Shared → Prop} {Q : Flow → Shared → Prop} (h : C s) : TurnQ C Q .next s := h
theorem tqB {C : Shared → Prop} {Q : Flow → Shared → Prop} (h : Q .next s) : TurnQ C Q .brk s := h
theorem tqR {C : Shared → Prop} {Q : Flow → Shared → Prop} {v : Value} (h : Q (.ret v) s) : TurnQ C Q (.ret v) s := h
-- constants
theorem kInt {i : Int} {k : Nat} {pos : Pos} {Q : Value → Shared → Prop} (S : St h₀ g z L K vals ms s) (h : ∀ t s', St h₀ g z L K vals ms s' → Q (.int i t) s') : wpAny M A (eval (.Constant (.int i) k pos) env) Q E s :=
  wpAny_Constant_int (h _ _ (S.tok _))
theorem kStr {x : Str} {k : Nat} {pos : Pos} {Q : Value → Shared → Prop} (S : St h₀ g z L K vals ms s) (h : ∀ t s', St h₀ g z L K vals ms s' → Q (.str x t) s') : wpAny M A (eval (.Constant (.str x) k pos) env) Q E s :=
  Constant_str (h _ _ (S.tok _))
-- ints
theorem addI {a b : Int} {t u : Tok} {Q : Value → Shared → Prop} (S : St h₀ g z L K vals ms s) (h : ∀ t' s', St h₀ g z L K vals ms s' → Q (.int (a + b) t') s') : wpAny (model prog w) A (binaryOp .Add (.int a t) (.int b u)) Q E s :=
  add_int (h _ _ (S.tok _))
theorem subI {a b : Int} {t u : Tok} {Q : Value → Shared → Prop} (S : St h₀ g z L K vals ms s) (h : ∀ t' s', St h₀ g z L K vals ms s' → Q (.int (a - b) t') s') : wpAny (model prog w) A (binaryOp .Sub (.int a t) (.int b u)) Q E s :=
  sub_int (h _ _ (S.tok _))
theorem mulI {a b : Int} {t u : Tok} {Q : Value → Shared → Prop} (S : St h₀ g z L K vals ms s) (hm : IntMulOk a b) (h : ∀ t' s', St h₀ g z L K vals ms s' → Q (.int (a * b) t') s') : wpAny (model prog w) A (binaryOp .Mult (.int a t) (.int b u)) Q E s :=
  mul_int (h _ _ (S.tok _)) hm
theorem modI {a b : Int} {t u : Tok} {Q : Value → Shared → Prop} (S : St h₀ g z L K vals ms s) (hb : b ≠ 0) (h : ∀ t' s', St h₀ g z L K vals ms s' → Q (.int (a.fmod b) t') s') : wpAny (model prog w) A (binaryOp .Mod (.int a t) (.int b u)) Q E s :=
  mod_int' hb (h _ _ (S.tok _))
theorem divI {a b : Int} {t u : Tok} {Q : Value → Shared → Prop} (S : St h₀ g z L K vals ms s) (hb : b ≠ 0) (hd : Builtin.divisionGoesByPylong a b = false) (h : ∀ t' s', St h₀ g z L K vals ms s' → Q (.int (a.fdiv b) t') s') : wpAny (model prog w) A (binaryOp .FloorDiv (.int a t) (.int b u)) Q E s :=
  floordiv_int hb (h _ _ (S.tok _)) (.inl hd)
-- strs
theorem addS {x y : Str} {t u : Tok} {Q : Value → Shared → Prop} (S : St h₀ g z L K vals ms s) (hz : x.length + y.length ≤ sizeLine) (h : ∀ t' s', St h₀ g z L K vals ms s' → Q (.str (x ++ y) t') s') : wpAny (model prog w) A (binaryOp .Add (.str x t) (.str y u)) Q E s :=
  SBL.add (fun _ _ _ => h _ _ (S.tok _)) hz
theorem lenS {x : Str} {t : Tok} {Q : Value → Shared → Prop} (S : St h₀ g z L K vals ms s) (hx : x.length ≤ 2 ^ 40) (h : ∀ t' s', St h₀ g z L K vals ms s' → Q (.int x.length t') s') : wpAny (model prog w) A (call (.builtin "len") [.str x t]) Q E s :=
  SBL.len (by omega) (h _ _ (S.tok _))
theorem truthS {x : Str} {t : Tok} {Q : Bool → Shared → Prop} (S : St h₀ g z L K vals ms s) (hx : x.length ≤ 2 ^ 40) (h : ∀ s', 0 < s'.toks → St h₀ g z L K vals ms s' → Q ((x.length : Int) != 0) s') : wpAny (model prog w) A (truthy (.str x t)) Q E s :=
  SBL.truthy (by omega) (h _ (Nat.succ_pos _) (S.tok _))
theorem findS {x y : Str} {t u : Tok} {Q : Value → Shared → Prop} (S : St h₀ g z L K vals ms s) (h : ∀ t' s', St h₀ g z L K vals ms s' → Q (.int (Txt.find x y) t') s') : wpAny (model prog w) A (call (.builtin "str.find") [.str x t, .str y u]) Q E s :=
  SC.find (h _ _ (S.tok _))

-- slices
theorem ltgS (value : Expr) (x : Str) (t : Tok) (r : Value) : letTemporaryGo value (.str x t) r = pure () := by
  unfold letTemporaryGo; split <;> first | rfl | (rename_i h; cases h)
theorem St.keptH (gs : Shared) : KeptH (fun h' => St h₀ g z L K vals ms { gs with heap := h' }) := fun h ob p => by
  exact St.push p ob
theorem sliceSN {value lower : Expr} {pl : Pos} {x : Str} {t : Tok} {i : Int} {ui : Tok} {Q : Value → Shared → Prop} (S : St h₀ g z L K vals ms s) (hsz : x.length ≤ sizeLine) (h : ∀ t' s', St h₀ g z L K vals ms s' → Q (.str (Txt.slice x (some i) none) t') s') :
    wpAny (model prog w) A (subscriptTail value (.Slice (some lower) none none pl) (.str x t) (.ref s.heap.objs.size)) Q E { s with heap := s.heap.push { cls := .type "slice", data := .fields #[.int i ui, .none, .none] } } :=
  tail_of_ItemOn (SBH.sliceItem_sn (St.keptH s) S (fun h' t' k hp => h t' _ (hp.tok k)) hsz) (by with_unfolding_all rfl) (ltgS _ _ _)
theorem sliceNS {value upper : Expr} {pl : Pos} {x : Str} {t : Tok} {i : Int} {ui : Tok} {Q : Value → Shared → Prop} (S : St h₀ g z L K vals ms s) (hsz : x.length ≤ sizeLine) (h : ∀ t' s', St h₀ g z L K vals ms s' → Q (.str (Txt.slice x none (some i)) t') s') :
    wpAny (model prog w) A (subscriptTail value (.Slice none (some upper) none pl) (.str x t) (.ref s.heap.objs.size)) Q E { s with heap := s.heap.push { cls := .type "slice", data := .fields #[.none, .int i ui, .none] } } :=
  tail_of_ItemOn (SBH.sliceItem_ns (St.keptH s) S (fun h' t' k hp => h t' _ (hp.tok k)) hsz) (by with_unfolding_all rfl) (ltgS _ _ _)
theorem sliceSS {value lower upper : Expr} {pl : Pos} {x : Str} {t : Tok} {i j : Int} {ui uj : Tok} {Q : Value → Shared → Prop} (S : St h₀ g z L K vals ms s) (hsz : x.length ≤ sizeLine) (h : ∀ t' s', St h₀ g z L K vals ms s' → Q (.str (Txt.slice x (some i) (some j)) t') s') :
    wpAny (model prog w) A (subscriptTail value (.Slice (some lower) (some upper) none pl) (.str x t) (.ref s.heap.objs.size)) Q E { s with heap := s.heap.push { cls := .type "slice", data := .fields #[.int i ui, .int j uj, .none] } } :=
  tail_of_ItemOn (SBH.sliceItem_ss (St.keptH s) S (fun h' t' k hp => h t' _ (hp.tok k)) hsz) (by with_unfolding_all rfl) (ltgS _ _ _)

-- lists and tuples made
theorem newL {vs : List Value} {Q : Value → Shared → Prop} (S : St h₀ g z L K vals ms s) (hsz : vs.length ≤ sizeLine) (h : ∀ D s', St h₀ g z L K vals ((D, listOf vs.toArray 0) :: ms) s' → Q (.ref D) s') : wpAny M A (newList vs) Q E s :=
  wpAny_newList (h _ _ (S.alloc rfl)) hsz
abbrev tupOf (its : Array Value) : Obj := { cls := .type "tuple", data := .seq its 0 }
theorem newT {vs : List Value} {Q : Value → Shared → Prop} (S : St h₀ g z L K vals ms s) (hsz : vs.length ≤ sizeLine) (h : ∀ D s', St h₀ g z L K vals ((D, tupOf vs.toArray) :: ms) s' → Q (.ref D) s') : wpAny M A (newTuple vs) Q E s :=
  wpAny_newTuple (h _ _ (S.alloc rfl)) hsz
theorem appAt {pre post : List (Addr × Obj)} {D : Addr} {its : Array Value} {n : Nat} {x : Value} {Q : Value → Shared → Prop} (S : St h₀ g z L K vals (pre ++ (D, listOf its n) :: post) s) (hsz : its.size ≤ sizeLine)
    (h : ∀ s', St h₀ g z L K vals (pre ++ (D, listOf (its.push x) (n + 1)) :: post) s' → Q .none s') : wpAny (model prog w) A (call (.builtin "list.append") [.ref D, x]) Q E s :=
  append_at (S.own (D, listOf its n) (by simp)).1 (fun h' hs ho => h _ (S.upd hs ho)) hsz
theorem app0 {post : List (Addr × Obj)} {D : Addr} {its : Array Value} {n : Nat} {x : Value} {Q : Value → Shared → Prop} (S : St h₀ g z L K vals ((D, listOf its n) :: post) s) (hsz : its.size ≤ sizeLine)
    (h : ∀ s', St h₀ g z L K vals ((D, listOf (its.push x) (n + 1)) :: post) s' → Q .none s') : wpAny (model prog w) A (call (.builtin "list.append") [.ref D, x]) Q E s := appAt (pre := []) S hsz h
theorem app1 {p0 : Addr × Obj} {post : List (Addr × Obj)} {D : Addr} {its : Array Value} {n : Nat} {x : Value} {Q : Value → Shared → Prop} (S : St h₀ g z L K vals (p0 :: (D, listOf its n) :: post) s) (hsz : its.size ≤ sizeLine)
    (h : ∀ s', St h₀ g z L K vals (p0 :: (D, listOf (its.push x) (n + 1)) :: post) s' → Q .none s') : wpAny (model prog w) A (call (.builtin "list.append") [.ref D, x]) Q E s := appAt (pre := [p0]) S hsz h
theorem app2 {p0 p1 : Addr × Obj} {post : List (Addr × Obj)} {D : Addr} {its : Array Value} {n : Nat} {x : Value} {Q : Value → Shared → Prop} (S : St h₀ g z L K vals (p0 :: p1 :: (D, listOf its n) :: post) s) (hsz : its.size ≤ sizeLine)
    (h : ∀ s', St h₀ g z L K vals (p0 :: p1 :: (D, listOf (its.push x) (n + 1)) :: post) s' → Q .none s') : wpAny (model prog w) A (call (.builtin "list.append") [.ref D, x]) Q E s := appAt (pre := [p0, p1]) S hsz h
theorem app3 {p0 p1 p2 : Addr × Obj} {post : List (Addr × Obj)} {D : Addr} {its : Array Value} {n : Nat} {x : Value} {Q : Value → Shared → Prop} (S : St h₀ g z L K vals (p0 :: p1 :: p2 :: (D, listOf its n) :: post) s) (hsz : its.size ≤ sizeLine)
    (h : ∀ s', St h₀ g z L K vals (p0 :: p1 :: p2 :: (D, listOf (its.push x) (n + 1)) :: post) s' → Q .none s') : wpAny (model prog w) A (call (.builtin "list.append") [.ref D, x]) Q E s := appAt (pre := [p0, p1, p2]) S hsz h

theorem getAppend {D : Addr} {its : Array Value} {n : Nat} {pl : Sem Bool} {Q : Value × List Value → Shared → Prop} (S : St h₀ g z L K vals ms s) (hm : (D, listOf its n) ∈ ms) (h : Q (.builtin "list.append", [.ref D]) s) :
    wpAny M A (getMethod (.ref D) "append" pl) Q E s := getMethod_list_append (S.own _ hm).1 rfl rfl h

-- items
theorem isL {l : Addr} {its : Array Value} {n : Nat} (S : St h₀ g z L K vals ms s) (hz : z l = some (listOf its n)) : s.heap.IsList l its := ⟨_, S.keep _ _ hz, rfl, _, rfl⟩
theorem isT {l : Addr} {its : Array Value} (S : St h₀ g z L K vals ms s) (hz : z l = some (tupOf its)) : s.heap.IsTuple l its := ⟨_, S.keep _ _ hz, rfl, _, rfl⟩
theorem isLm {l : Addr} {its : Array Value} {n : Nat} (S : St h₀ g z L K vals ms s) (hm : (l, listOf its n) ∈ ms) : s.heap.IsList l its := ⟨_, (S.own _ hm).1, rfl, _, rfl⟩
theorem isTm {l : Addr} {its : Array Value} (S : St h₀ g z L K vals ms s) (hm : (l, tupOf its) ∈ ms) : s.heap.IsTuple l its := ⟨_, (S.own _ hm).1, rfl, _, rfl⟩

theorem exprZ {e : Expr} {pos : Pos} {Q : Flow → Shared → Prop} (O : EnvOk env L K Gs) (h : wpAny (model prog w) A (eval e env) (fun _ s' => Q .next s') E s)
    (hs : swapsWith e none pos.line env = pure false := by rfl) : wpAny (model prog w) A (exec (.Expr e pos) env) Q E s :=
  wpAny_Expr_any h (by unfold interactive; rw [O.kind]; rfl) hs
-- methods of built-in types
theorem cwM1 {pos : Pos} {id : String} {x : Value} {e : Expr} {rest : List Expr} {Q : Value → Shared → Prop} (h : wpAny M A (spliced (backTo pos (starEach (e :: rest) env))) (fun vs s₁ => wpAny M A (call (.builtin id) (x :: vs)) Q E s₁) E s)
    (he : starEach (e :: rest) env = (false, eval e env) :: starEach rest env := by rfl) (hp : (backTo pos (starEach rest env)).any (·.1) = false := by rfl) :
    wpAny M A (callWith pos (.builtin id) [x] (backTo pos (starEach (e :: rest) env)) []) Q E s := callWith_method1 h he hp
-- own functions
theorem callWith_fn {pos : Pos} {f : Addr} {o : Obj} {fd : FuncData} {e : Expr} {rest : List Expr} {Q : Value → Shared → Prop} (ho : h₀.get? f = some o) (hd : o.data = .func fd)
    (h : wpAny M A (spliced (backTo pos (starEach (e :: rest) env))) (fun vs s₁ => Le h₀.get? s₁.heap.get? ∧ wpAny M A (call (.ref f) vs) Q E s₁) E s)
    (he : starEach (e :: rest) env = (false, eval e env) :: starEach rest env) : wpAny M A (callWith pos (.ref f) [] (backTo pos (starEach (e :: rest) env)) []) Q E s := by
  refine callWith_function (o := o) (fd := fd) ?_
  rw [he] at h ⊢
  exact evalArgs_plain (wpAny_mono h (fun vs s₁ h₁ => ⟨⟨h₁.1 _ _ ho, hd⟩, h₁.2⟩) fun _ _ x => x)

theorem useSpec {f : Addr} {args : List Value} {P : Value → Shared → Prop} {Q : Value → Shared → Prop} (S : St h₀ g z L K vals ms s)
    (c : codeAny M A (.call (.ref f) ⟨args, []⟩) (fun r s' => ∃ v, r = .ok (.ret v) ∧ Keeps s s' ∧ P v s') s)
    (h : ∀ v z' s', Le z z' → Le (nw s.heap.objs.size s'.heap.get?) (nw g.heap.objs.size z') → St h₀ g z' L K vals ms s' → P v s' → Q v s') : wpAny M A (call (.ref f) args) Q E s :=
  wpAny_call (codeAny_mono c fun r s' ⟨v, e, k, p⟩ => by
    subst e
    obtain ⟨z', a, b, c⟩ := S.back k
    exact h v z' s' a b c p)

/-- the way into a def of the text -/
theorem enter {f : Addr} {o : Obj} {fd : FuncData} {body : List Stmt} {args : Args} {binds : List (Str × Value)} {R : Result → Shared → Prop}
    (hs : Le h₀.get? s.heap.get?) (hroom : A.depth < recursionLimit) (ho : h₀.get? f = some o) (hdata : o.data = .func fd) (hlim : h₀.NoLimit) (hcd : h₀.CodeRec fd.code fd.qualname)
    (hbody : fd.body = .stmts body) (hbind : BindsTo s fd args binds) (hcell : ∀ x ∈ fd.scope.names, x.2 ≠ .cell) (hloc : ∀ x ∈ binds, fd.scope.names.lookup x.1 = some .local)
    (hm : (fun x => binds.reverse.lookup x) = mOf K vals)
    (h : ∀ s', (∀ x, x = binds → 0 < x.length → 0 < s'.toks) → St h₀ s s.heap.get? s.heap.objs.size K vals [] s' → wpAny (model prog w) (A.deeper (callEnv fd s.heap.objs.size f)) (execs body (callEnv fd s.heap.objs.size f)) (fun fl s' => R (.ok (.ret (match fl with | .ret v => v | _ => .none))) s')
        (fun e s' => wpAny (model prog w) (A.deeper (callEnv fd s.heap.objs.size f)) (leaving (callEnv fd s.heap.objs.size f) e) (fun _ s'' => R (.error e) s'') (fun e' s'' => R (.error e') s'') s') s')
    (hco : fd.scope.isCoroutine = false) (hgen : fd.scope.isGenerator = false) (hk : fd.scope.kind = .function) : codeAny (model prog w) A (.call (.ref f) args) R s := by
  obtain ⟨mc, hn, hv⟩ := hlim
  refine codeAny_call_def hroom (hs _ _ ho) hdata ⟨mc, hn.keeps hs, hv⟩ ?_ hbody hbind hcell hloc (fun h₁ hns hk₁ => ?_) hco hgen hk
  · obtain ⟨c, oc, vs, tq, hc, hoc, r⟩ := hcd
    exact ⟨c, oc, vs, tq, hc, hs _ _ hoc, r⟩
  · exact h _ (fun x e hx => by subst e; show 0 < s.toks + _; omega) (St.start hs hns hk₁ hm)
end
end Mine

namespace Mine
section
variable {M : Model} {prog : Program} {w : World} {A : Around} {E : Value → Shared → Prop} {h₀ : Heap} {g : Shared} {z z' : PHeap} {L : Addr} {K Gs : List Str} {vals : List (Option Value)} {ms : List (Addr × Obj)} {s : Shared} {env : Env}

theorem St.ext {I : Addr} {o : Obj} {h' : Heap} (S : St h₀ g z L K vals ((I, o) :: ms) s) (hx : Heap.ExtBut I s.heap h') : St h₀ g z L K vals ms { s with heap := h' } := by
  have P := S.own (I, o) (.head _)
  obtain ⟨h, tk, e⟩ := S.sh
  have hn : h'.Ns L (mOf K vals) := S.ns.extBut hx (Ne.symm P.2.1)
  refine ⟨⟨_, s.toks, by rw [e]⟩, hn, fun b ob hb => hx b ob (fun q => ?_) (S.keep b ob hb), S.zL, S.gL, fun p hp => ?_, (List.nodup_cons.mp S.nd).2, S.zg, ?_, S.h0⟩
  · rw [q, P.2.2.1] at hb; cases hb
  · have Q := S.own p (.tail _ hp)
    exact ⟨hx _ _ (fun q => (List.nodup_cons.mp S.nd).1 (List.mem_map.mpr ⟨p, hp, q⟩)) Q.1, Q.2⟩
  · exact Nat.le_trans S.gL (Nat.le_of_lt hn.lt)

theorem letOwned_go {target : Expr} {I : Addr} {v : Value} {o : Obj} {vs : Array Value} {T : String} {Q : Unit → Shared → Prop} (ho : s.heap.get? I = some o) (hc : o.cls = .type T) (hd : o.data = .fields vs)
    (hT : (["enumerate", "zip", "dict_itemiterator", "dict_reverseitemiterator", "odict_iterator", "itertools.zip_longest", "itertools.pairwise"] : List String).contains T = false) (h : Q () s) :
    wpAny (model prog w) A (letOwnedTupleGo target (.ref I) v) Q E s := by
  have main : wpAny (model prog w) A (do
      let (.ref r, .ref a) := ((.ref I : Value), v) | return
      let o ← load r
      match o.cls, o.data with
      | .type n, .fields vs =>
        if ["enumerate", "zip", "dict_itemiterator", "dict_reverseitemiterator", "odict_iterator", "itertools.zip_longest", "itertools.pairwise"].contains n && vs[0]? == some (rawInt a) then
          rule "for.unpacks-the-owned-tuple"
          updateField r 0 .none
      | _, _ => pure ()) Q E s := by
    cases v <;> first
      | exact wpAny_pure h
      | (refine wpAny_bind (wpAny_load ho ?_)
         simp only [hc, hd, hT, Bool.false_and]
         exact wpAny_pure h)
  cases target <;> first
    | exact wpAny_pure h
    | exact main

theorem forL {target : Expr} {body : List Stmt} {l : Addr} {vs : List Value} {n : Nat} {Q : Flow → Shared → Prop} {Er : Value → Shared → Prop} (S : St h₀ g z L K vals ms s) (hh : A.handled = none) (hz : z l = some (listOf vs.toArray n))
    (J : Nat → PHeap → List (Option Value) → List (Addr × Obj) → Prop) (h0 : J 0 z vals ms)
    (turn : ∀ (E' : Value → Shared → Prop) i v z' vals' I o ms' s', vs[i]? = some v → Le z z' → J i z' vals' ms' → St h₀ g z' L K vals' ((I, o) :: ms') s' →
      wpAny (model prog w) A (assign target env v) (fun _ s₂ => wpAny (model prog w) A (execs body env) (TurnQ (fun s₃ => ∃ z'' vals'' ms'', Le z' z'' ∧ J (i + 1) z'' vals'' ms'' ∧ St h₀ g z'' L K vals'' ((I, o) :: ms'') s₃) Q) E' s₂) E' s')
    (done : ∀ z' vals' ms' s', Le z z' → J vs.length z' vals' ms' → St h₀ g z' L K vals' ms' s' → Q .next s') :
    wpAny (model prog w) A (pyIter (.ref l)) (fun it s₂ => codeAny (model prog w) A (.forLoop target it body [] env) (fun r s' => match r with | .ok f => Q f s' | .error e => Er e s') s₂) E s := by
  refine wpAny_pyIter_list (isL S hz) ?_
  refine codeAny_forLoop_any (fun k s' => ∃ (i : Nat) (z' : PHeap) (vals' : List (Option Value)) (ms' : List (Addr × Obj)) (o : Obj), St h₀ g z' L K vals' ((s.heap.objs.size, o) :: ms') s' ∧ o.cls = .type "list_iterator" ∧ o.data = .fields #[.ref l, .int i 0] ∧ Le z z' ∧ J i z' vals' ms' ∧ i ≤ vs.length ∧ k = vs.length + 1 - i) ?_
    (vs.length + 1) ⟨0, z, vals, ms, _, S.alloc rfl, rfl, rfl, Le.refl z, h0, Nat.zero_le _, rfl⟩
  rintro k s' ⟨i, z', vals', ms', o, S', hc, hd, le, hJ, hi, rfl⟩
  have hit : s'.heap.IsListIter s.heap.objs.size l i := ⟨o, (S'.own _ (.head _)).1, hc, hd⟩
  cases hv : vs[i]? with
  | none =>
    have hsz : i = vs.length := Nat.le_antisymm hi (by simpa using hv)
    refine wpAny_pyNext_list_end hh hit (isL S' (le _ _ hz)) (by simpa using hv) fun h₁ he₁ => wpAny_execs_nil ?_
    exact done z' vals' ms' _ le (hsz ▸ hJ) (S'.ext he₁)
  | some v =>
    have hlt : i < vs.length := (List.getElem?_eq_some_iff.mp hv).1
    refine wpAny_pyNext_list_item hit (isL S' (le _ _ hz)) (by simpa using hv) fun h₁ hit₁ hs₁ => ?_
    obtain ⟨o', ho', hc', hd'⟩ := hit₁
    have S₁ := S'.upd (pre := []) hs₁ ho'
    refine letOwned_go (S₁.own _ (.head _)).1 hc' hd' (by decide) ?_
    refine wpAny_mono (turn _ i v z' vals' _ o' ms' _ hv le hJ S₁) (fun _ s₂ h₂ => wpAny_mono h₂ (fun f s₃ h₃ => ?_) fun _ _ e => e) fun _ _ e => e
    cases f with
    | next =>
      obtain ⟨z'', vals'', ms'', le', hJ', S₃⟩ := h₃
      exact ⟨vs.length + 1 - (i + 1), by omega, i + 1, z'', vals'', ms'', o', S₃, hc', hd', le.trans le', hJ', hlt, rfl⟩
    | cont =>
      obtain ⟨z'', vals'', ms'', le', hJ', S₃⟩ := h₃
      exact ⟨vs.length + 1 - (i + 1), by omega, i + 1, z'', vals'', ms'', o', S₃, hc', hd', le.trans le', hJ', hlt, rfl⟩
    | brk => exact h₃
    | ret v => exact h₃

theorem forT {target : Expr} {body : List Stmt} {l : Addr} {vs : List Value} {Q : Flow → Shared → Prop} {Er : Value → Shared → Prop} (S : St h₀ g z L K vals ms s) (hh : A.handled = none) (hz : z l = some (tupOf vs.toArray))
    (J : Nat → PHeap → List (Option Value) → List (Addr × Obj) → Prop) (h0 : J 0 z vals ms)
    (turn : ∀ (E' : Value → Shared → Prop) i v z' vals' I o ms' s', vs[i]? = some v → Le z z' → J i z' vals' ms' → St h₀ g z' L K vals' ((I, o) :: ms') s' →
      wpAny (model prog w) A (assign target env v) (fun _ s₂ => wpAny (model prog w) A (execs body env) (TurnQ (fun s₃ => ∃ z'' vals'' ms'', Le z' z'' ∧ J (i + 1) z'' vals'' ms'' ∧ St h₀ g z'' L K vals'' ((I, o) :: ms'') s₃) Q) E' s₂) E' s')
    (done : ∀ z' vals' ms' s', Le z z' → J vs.length z' vals' ms' → St h₀ g z' L K vals' ms' s' → Q .next s') :
    wpAny (model prog w) A (pyIter (.ref l)) (fun it s₂ => codeAny (model prog w) A (.forLoop target it body [] env) (fun r s' => match r with | .ok f => Q f s' | .error e => Er e s') s₂) E s := by
  refine wpAny_pyIter_tuple (isT S hz) ?_
  refine codeAny_forLoop_any (fun k s' => ∃ (i : Nat) (z' : PHeap) (vals' : List (Option Value)) (ms' : List (Addr × Obj)) (o : Obj), St h₀ g z' L K vals' ((s.heap.objs.size, o) :: ms') s' ∧ o.cls = .type "tuple_iterator" ∧ o.data = .fields #[.ref l, .int i 0] ∧ Le z z' ∧ J i z' vals' ms' ∧ i ≤ vs.length ∧ k = vs.length + 1 - i) ?_
    (vs.length + 1) ⟨0, z, vals, ms, _, S.alloc rfl, rfl, rfl, Le.refl z, h0, Nat.zero_le _, rfl⟩
  rintro k s' ⟨i, z', vals', ms', o, S', hc, hd, le, hJ, hi, rfl⟩
  have hit : s'.heap.IsTupleIter s.heap.objs.size l i := ⟨o, (S'.own _ (.head _)).1, hc, hd⟩
  cases hv : vs[i]? with
  | none =>
    have hsz : i = vs.length := Nat.le_antisymm hi (by simpa using hv)
    refine wpAny_pyNext_tuple_end hh hit (isT S' (le _ _ hz)) (by simpa using hv) fun h₁ he₁ => wpAny_execs_nil ?_
    exact done z' vals' ms' _ le (hsz ▸ hJ) (S'.ext he₁)
  | some v =>
    have hlt : i < vs.length := (List.getElem?_eq_some_iff.mp hv).1
    refine wpAny_pyNext_tuple_item hit (isT S' (le _ _ hz)) (by simpa using hv) fun h₁ hit₁ hs₁ => ?_
    obtain ⟨o', ho', hc', hd'⟩ := hit₁
    have S₁ := S'.upd (pre := []) hs₁ ho'
    refine letOwned_go (S₁.own _ (.head _)).1 hc' hd' (by decide) ?_
    refine wpAny_mono (turn _ i v z' vals' _ o' ms' _ hv le hJ S₁) (fun _ s₂ h₂ => wpAny_mono h₂ (fun f s₃ h₃ => ?_) fun _ _ e => e) fun _ _ e => e
    cases f with
    | next =>
      obtain ⟨z'', vals'', ms'', le', hJ', S₃⟩ := h₃
      exact ⟨vs.length + 1 - (i + 1), by omega, i + 1, z'', vals'', ms'', o', S₃, hc', hd', le.trans le', hJ', hlt, rfl⟩
    | cont =>
      obtain ⟨z'', vals'', ms'', le', hJ', S₃⟩ := h₃
      exact ⟨vs.length + 1 - (i + 1), by omega, i + 1, z'', vals'', ms'', o', S₃, hc', hd', le.trans le', hJ', hlt, rfl⟩
    | brk => exact h₃
    | ret v => exact h₃

theorem forR {target : Expr} {body : List Stmt} {r : Addr} {n : Nat} {t u v : Tok} {Q : Flow → Shared → Prop} {Er : Value → Shared → Prop} (S : St h₀ g z L K vals ((r, { cls := .type "range", data := .fields #[.int 0 t, .int n u, .int 1 v] }) :: ms) s) (hh : A.handled = none) (hn : n ≤ 2 ^ 40)
    (J : Nat → PHeap → List (Option Value) → List (Addr × Obj) → Prop) (h0 : J 0 z vals ms)
    (turn : ∀ (E' : Value → Shared → Prop) i tk z' vals' I o ms' s', i < n → Le z z' → J i z' vals' ms' → St h₀ g z' L K vals' ((I, o) :: ms') s' →
      wpAny (model prog w) A (assign target env (.int i tk)) (fun _ s₂ => wpAny (model prog w) A (execs body env) (TurnQ (fun s₃ => ∃ z'' vals'' ms'', Le z' z'' ∧ J (i + 1) z'' vals'' ms'' ∧ St h₀ g z'' L K vals'' ((I, o) :: ms'') s₃) Q) E' s₂) E' s')
    (done : ∀ z' vals' ms' s', Le z z' → J n z' vals' ms' → St h₀ g z' L K vals' ms' s' → Q .next s') :
    wpAny (model prog w) A (pyIter (.ref r)) (fun it s₂ => codeAny (model prog w) A (.forLoop target it body [] env) (fun r s' => match r with | .ok f => Q f s' | .error e => Er e s') s₂) E s := by
  have hr : IsRange s.heap r 0 n 1 t u v := (S.own _ (.head _)).1
  have hsize : Builtin.Range.rangeSize 0 n 1 = n := by rw [rangeSize_one]; split <;> omega
  refine wpAny_pyIter_range hr (small_one (by omega) (by omega) (by omega) (by omega)) ?_
  rw [hsize]
  have S0 := S.drop
  refine codeAny_forLoop_any (fun k s' => ∃ (i : Nat) (z' : PHeap) (vals' : List (Option Value)) (ms' : List (Addr × Obj)), St h₀ g z' L K vals' ((s.heap.objs.size, { cls := .type "range_iterator", dict := none, data := .fields #[rawInt i, rawInt ((n : Int) - i), rawInt 1], slots := #[] }) :: ms') s' ∧ Le z z' ∧ J i z' vals' ms' ∧ i ≤ n ∧ k = n + 1 - i) ?_
    (n + 1) ⟨0, z, vals, ms, by simpa using S0.alloc (o := { cls := .type "range_iterator", data := .fields #[rawInt 0, rawInt n, rawInt 1] }) rfl, Le.refl z, h0, Nat.zero_le _, rfl⟩
  rintro k s' ⟨i, z', vals', ms', S', le, hJ, hi, rfl⟩
  have hit : IsRangeIter s'.heap s.heap.objs.size i ((n : Int) - i) 1 := (S'.own _ (.head _)).1
  by_cases hlt : i < n
  · refine wpAny_pyNext_range_item hit (by omega) fun h₁ hit₁ hs₁ => ?_
    have S₁ := (S'.upd (pre := []) hs₁ hit₁).tok (s'.toks + 1)
    refine letOwned_go (S₁.own _ (.head _)).1 rfl rfl (by decide) ?_
    refine wpAny_mono (turn _ i _ z' vals' _ _ ms' _ hlt le hJ S₁) (fun _ s₂ h₂ => wpAny_mono h₂ (fun f s₃ h₃ => ?_) fun _ _ e => e) fun _ _ e => e
    have e1 : (i : Int) + 1 = ((i + 1 : Nat) : Int) := by omega
    have e2 : (n : Int) - i - 1 = (n : Int) - ((i + 1 : Nat) : Int) := by omega
    cases f with
    | next =>
      obtain ⟨z'', vals'', ms'', le', hJ', S₃⟩ := h₃
      rw [e1, e2] at S₃
      exact ⟨n + 1 - (i + 1), by omega, i + 1, z'', vals'', ms'', S₃, le.trans le', hJ', hlt, rfl⟩
    | cont =>
      obtain ⟨z'', vals'', ms'', le', hJ', S₃⟩ := h₃
      rw [e1, e2] at S₃
      exact ⟨n + 1 - (i + 1), by omega, i + 1, z'', vals'', ms'', S₃, le.trans le', hJ', hlt, rfl⟩
    | brk => exact h₃
    | ret v => exact h₃
  · have hin : i = n := by omega
    subst hin
    refine wpAny_pyNext_range_end hh hit (by omega) fun h₁ he₁ => wpAny_execs_nil ?_
    exact done z' vals' ms' _ le hJ (S'.ext he₁)

theorem range1 {n : Int} {t : Tok} {Q : Value → Shared → Prop} (S : St h₀ g z L K vals ms s)
    (h : ∀ r t' u' s', St h₀ g z L K vals ((r, { cls := .type "range", data := .fields #[.int 0 t', .int n t, .int 1 u'] }) :: ms) s' → Q (.ref r) s') : wpAny (model prog w) A (call (.type "range") [.int n t]) Q E s :=
  call_range_1 (h _ _ _ _ ((S.alloc rfl).tok _))

/-- two names unpacked out of a pair -/
theorem asg2 {x y : Str} {px py pos : Pos} {k : Nat} {t : Addr} {a b : Value} {Q : Unit → Shared → Prop} (S : St h₀ g z L K vals ms s) (hh : A.handled = none) (ht : s.heap.IsTuple t #[a, b])
    (h : ∀ s', St h₀ g z L K vals ms s' → wpAny (model prog w) A (storeName env x a) (fun _ s₁ => wpAny (model prog w) A (storeName env y b) Q E s₁) E s') :
    wpAny (model prog w) A (assign (.Tuple [.Name x px, .Name y py] k pos) env (.ref t)) Q E s := by
  refine wpAny_assign_Tuple hh ht rfl rfl fun h' he => ?_
  have S' : St h₀ g z L K vals ms { s with heap := h' } := by
    have n1 : ∀ b o, s.heap.get? b = some o → h'.get? b = some o := fun b o e => he b o (Nat.ne_of_lt (Heap.lt_size e)) e
    obtain ⟨h, tk, e⟩ := S.sh
    have hn : h'.Ns L (mOf K vals) := S.ns.keeps n1
    exact ⟨⟨_, s.toks, by rw [e]⟩, hn, fun b o e => n1 _ _ (S.keep _ _ e), S.zL, S.gL, fun p hp => ⟨n1 _ _ (S.own p hp).1, (S.own p hp).2⟩, S.nd, S.zg, Nat.le_trans S.gL (Nat.le_of_lt hn.lt), S.h0⟩
  show wpAny _ _ (assignInOrder [assign (.Name x px) env, assign (.Name y py) env] [a, b]) _ _ _
  unfold assignInOrder
  refine wpAny_bind (wpAny_holding (wpAny_assign_Name (wpAny_mono (h _ S') (fun _ s₁ h₁ => ?_) fun _ _ e => e)))
  unfold assignInOrder
  refine wpAny_bind (wpAny_holding (wpAny_assign_Name (wpAny_mono h₁ (fun _ s₂ h₂ => ?_) fun _ _ e => e)))
  unfold assignInOrder
  exact wpAny_pure h₂
end
end Mine
namespace Mine
theorem lookup_not_mem {y : Str} : ∀ {l : List (Str × Value)}, y ∉ l.map (·.1) → l.lookup y = none
  | [], _ => rfl
  | p :: l, h => by
    have h1 : (y == p.1) = false := by
      cases q : y == p.1 with
      | false => rfl
      | true => exact absurd (by rw [eq_of_beq q]; simp) h
    rw [show p = (p.1, p.2) from rfl, List.lookup_cons, h1]
    exact lookup_not_mem fun q => h (by simp only [List.map_cons, List.mem_cons]; exact .inr q)
theorem lookup_rev {y : Str} : ∀ {l : List (Str × Value)}, (l.map (·.1)).Nodup → l.reverse.lookup y = l.lookup y
  | [], _ => rfl
  | p :: l, h => by
    obtain ⟨k, v⟩ := p
    rw [List.map_cons, List.nodup_cons] at h
    rw [List.reverse_cons, List.lookup_append, lookup_rev h.2]
    simp only [List.lookup_cons, List.lookup_nil]
    cases q : y == k with
    | false => simp
    | true =>
      have : l.lookup y = none := lookup_not_mem (by rw [eq_of_beq q]; exact h.1)
      rw [this]; rfl
theorem mOf_none (y : Str) : ∀ (K : List Str) (n : Nat), mOf K (List.replicate n none) y = none
  | [], _ => by cases ‹Nat› <;> rfl
  | _ :: _, 0 => rfl
  | k :: ks, n + 1 => by
    rw [List.replicate_succ]
    simp only [mOf]
    split
    · rfl
    · exact mOf_none y ks n
theorem mOf_zip (y : Str) (rest : List Str) (n : Nat) : ∀ (names : List Str) (vs : List Value), names.length = vs.length → mOf (names ++ rest) (vs.map some ++ List.replicate n none) y = (names.zip vs).lookup y
  | [], [], _ => mOf_none y rest n
  | [], _ :: _, h => by simp at h
  | _ :: _, [], h => by simp at h
  | k :: ks, v :: vs, h => by
    simp only [List.cons_append, List.map_cons, mOf, List.zip_cons_cons, List.lookup_cons]
    rw [mOf_zip y rest n ks vs (by simpa using h)]
    by_cases q : y = k
    · simp [q]
    · have : (y == k) = false := by simpa using q
      simp [q, this]
theorem binds_mOf {names rest : List Str} {vs : List Value} (n : Nat) (hl : names.length = vs.length) (hn : names.Nodup) :
    (fun x => ((names.zip vs).reverse).lookup x) = mOf (names ++ rest) (vs.map some ++ List.replicate n none) := by
  funext y
  rw [mOf_zip y rest n names vs hl]
  refine lookup_rev ?_
  rw [List.map_fst_zip (by omega)]
  exact hn

theorem StrsAre.at {vs : List Value} {xs : List Str} (h : StrsAre vs xs) : ∀ {i : Nat} {v : Value}, vs[i]? = some v → ∃ x t, v = .str x t ∧ xs[i]? = some x := by
  induction h with
  | nil => intro i v hv; simp at hv
  | cons x t _ ih =>
    intro i v hv
    cases i with
    | zero => simp at hv; exact ⟨x, t, hv.symm, rfl⟩
    | succ i => simpa using ih (by simpa using hv)
end Mine
namespace Mine
def RetQ (P : Value → Shared → Prop) : Flow → Shared → Prop
  | .ret v, s => P v s
  | _, _ => False
theorem rqR {P : Value → Shared → Prop} {v : Value} {s : Shared} (h : P v s) : RetQ P (.ret v) s := h

structure ScopeOk (sc : Scope) (K Gs : List Str) : Prop where
  kind : sc.kind = .function
  kl : ∀ x ∈ K, sc.names.lookup x = some .local
  kg : ∀ x ∈ Gs, sc.names.lookup x = some .globalImplicit
  nd : K.Nodup
  nb : ("__debug__" : Str) ∉ K
  ng : ("__debug__" : Str) ∉ Gs
  cell : ∀ x ∈ sc.names, x.2 ≠ .cell
  co : sc.isCoroutine = false
  gen : sc.isGenerator = false

theorem enterFn {prog : Program} {w : World} {A : Around} {h₀ : Heap} {s : Shared} {f : Addr} {names rest K Gs : List Str} {vs args : List Value} {vals : List (Option Value)} {P : Value → Shared → Prop}
    {name qual : Str} {params : Arguments} {body : List Stmt} {sc : Scope} {dV kV doc pm cdv ct oc : Value} {an od : Option Addr} {osl : Array (Option Value)}
    (ho : h₀.get? f = some ⟨oc, od, .func (fnOf name qual params body sc dV kV doc pm an cdv ct), osl⟩) (hcd : h₀.CodeRec cdv qual) (hlim : h₀.NoLimit)
    (hs : Le h₀.get? s.heap.get?) (hroom : A.depth < 1000)
    (hbind : BindsTo s (fnOf name qual params body sc dV kV doc pm an cdv ct) ⟨args, []⟩ (names.zip vs)) (hl : names.length = vs.length)
    (O : ScopeOk sc K Gs) (hK : names ++ rest = K) (hV : vs.map some ++ List.replicate rest.length none = vals)
    (h : ∀ s' env E', EnvOk env s.heap.objs.size K Gs → (0 < vs.length → 0 < s'.toks) → St h₀ s s.heap.get? s.heap.objs.size K vals [] s' → wpAny (model prog w) (A.deeper env) (execs body env) (RetQ P) E' s') :
    codeAny (model prog w) A (.call (.ref f) ⟨args, []⟩) (fun r s' => ∃ v, r = .ok (.ret v) ∧ P v s') s := by
  subst hK; subst hV
  have hnd : names.Nodup := (List.nodup_append.mp O.nd).1
  refine enter hs hroom ho rfl hlim hcd rfl hbind O.cell (fun x hx => O.kl x.1 (List.mem_append_left _ (List.of_mem_zip hx).1)) (binds_mOf (rest := rest) rest.length hl hnd) ?_ O.co O.gen O.kind
  intro s' ht S
  refine wpAny_mono (h s' _ _ ⟨O.kind, rfl, rfl, rfl, O.kl, O.kg, O.nd, O.nb, O.ng⟩ (fun q => ht _ rfl (by rw [List.length_zip]; omega)) S) (fun fl s₂ h₂ => ?_) fun _ _ e => e
  cases fl <;> first | exact h₂.elim | exact ⟨_, rfl, h₂⟩
end Mine

namespace Mine
open PySem.Builtin.Str
abbrev tl (x : Str) : List Nat := x.cps.toList
theorem tl_inj {x y : Str} (h : tl x = tl y) : x = y := Str.ext' (Array.toList_inj.mp h)
theorem tl_append (x y : Str) : tl (x ++ y) = tl x ++ tl y := by show (x.cps ++ y.cps).toList = _; simp
theorem len_tl (x : Str) : x.length = (tl x).length := by simp [Str.length]

theorem sw_iff {x y : Str} : Txt.startswith x y = true ↔ tl y <+: tl x := by
  unfold Txt.startswith
  rw [StrLaws.subAt_eq, List.drop_zero, Bool.and_eq_true, decide_eq_true_eq, beq_iff_eq, List.prefix_iff_eq_take, len_tl, len_tl, Nat.zero_add]
  constructor
  · rintro ⟨_, h⟩; exact h.symm
  · intro h
    refine ⟨?_, h.symm⟩
    have := congrArg List.length h
    rw [List.length_take] at this; omega

theorem slice_eq (x : Str) (l u : Option Int) : Txt.slice x l u = StrLaws.sliceText x l u := rfl
theorem idx_clip (l u : Option Int) (n : Nat) : strSliceIndices (l.map fun i => min i n) (u.map fun i => min i n) 1 n = strSliceIndices l u 1 n := by
  have key : ∀ i : Int, max (0 : Int) (min (if min i (n : Int) < 0 then min i (n : Int) + (n : Int) else min i (n : Int)) (n : Int)) = max (0 : Int) (min (if i < 0 then i + (n : Int) else i) (n : Int)) := by
    intro i; split <;> split <;> omega
  unfold strSliceIndices
  cases l <;> cases u <;> simp only [Option.map_none, Option.map_some, show (1 : Int) > 0 from by decide, if_true, key]
theorem slice_clip (x : Str) (l u : Option Int) : Txt.slice x l u = Txt.slice x (l.map fun i => min i x.length) (u.map fun i => min i x.length) := by
  unfold Txt.slice
  rw [idx_clip]
theorem sl_from {x : Str} {k : Nat} : tl (Txt.slice x (some (k : Int)) none) = (tl x).drop k := by
  rw [slice_clip, Option.map_some, Option.map_none, show min (k : Int) (x.length : Int) = ((min k x.length : Nat) : Int) from by omega]
  have e : x.length = x.cps.toList.length := len_tl x
  rw [slice_eq, StrLaws.sliceText_from ⟨by omega, by omega⟩]
  show ((tl x).drop ((min k x.length : Nat) : Int).toNat).take _ = _
  rw [Int.toNat_natCast, List.take_of_length_le]
  · by_cases h : k ≤ x.length
    · rw [Nat.min_eq_left h]
    · rw [Nat.min_eq_right (by omega), List.drop_eq_nil_of_le (by rw [len_tl]; exact Nat.le_refl _), List.drop_eq_nil_of_le (by rw [← len_tl]; omega)]
  · rw [List.length_drop, ← len_tl]; omega
theorem sl_to {x : Str} {k : Nat} : tl (Txt.slice x none (some (k : Int))) = (tl x).take k := by
  rw [slice_clip, Option.map_some, Option.map_none, show min (k : Int) (x.length : Int) = ((min k x.length : Nat) : Int) from by omega]
  have e : x.length = x.cps.toList.length := len_tl x
  rw [slice_eq, StrLaws.sliceText_to ⟨by omega, by omega⟩]
  show ((tl x).drop 0).take (((min k x.length : Nat) : Int) - 0).toNat = _
  rw [List.drop_zero, Int.sub_zero, Int.toNat_natCast, len_tl, Nat.min_comm, ← List.take_take]
  exact List.take_of_length_le (by rw [List.length_take]; omega)
theorem sl_ss {x : Str} {a b : Nat} (hab : a ≤ b) : tl (Txt.slice x (some (a : Int)) (some (b : Int))) = ((tl x).drop a).take (b - a) := by
  rw [slice_clip, Option.map_some, Option.map_some, show min (a : Int) (x.length : Int) = ((min a x.length : Nat) : Int) from by omega, show min (b : Int) (x.length : Int) = ((min b x.length : Nat) : Int) from by omega]
  have e : x.length = x.cps.toList.length := len_tl x
  rw [slice_eq, StrLaws.sliceText_nat x (by omega) (by omega)]
  show ((tl x).drop (min a x.length)).take (min b x.length - min a x.length) = _
  by_cases h : a ≤ x.length
  · rw [Nat.min_eq_left h]
    by_cases h2 : b ≤ x.length
    · rw [Nat.min_eq_left h2]
    · rw [Nat.min_eq_right (by omega), List.take_of_length_le (by rw [List.length_drop, len_tl]; exact Nat.le_refl _), List.take_of_length_le (by rw [List.length_drop, ← len_tl]; omega)]
  · rw [show min a x.length = (tl x).length from by rw [len_tl] at h ⊢; omega, List.drop_length, List.drop_eq_nil_of_le (by rw [← len_tl]; omega)]
    simp

theorem in_iff {x y : Str} : (!(occurrences x y 0 x.length 1).isEmpty) = true ↔ tl y <:+: tl x := by
  rw [StrLaws.found_iff]
  constructor
  · rintro ⟨i, h1, h2⟩
    rw [StrLaws.subAt_eq, beq_iff_eq] at h2
    refine ⟨(tl x).take i, (tl x).drop (i + y.length), ?_⟩
    show (tl x).take i ++ tl y ++ _ = _
    rw [show tl y = _ from h2.symm, List.append_assoc, ← List.drop_drop]
    rw [List.take_append_drop, List.take_append_drop]
  · rintro ⟨a, b, h⟩
    refine ⟨a.length, ?_, ?_⟩
    · have := congrArg List.length h
      simp only [List.length_append] at this
      rw [len_tl, len_tl]; omega
    · rw [StrLaws.subAt_eq, beq_iff_eq]
      show ((tl x).drop a.length).take y.length = tl y
      rw [← h, List.append_assoc, List.drop_left, len_tl, List.take_left]

theorem join_flat (c : Nat) (z : Str) : ∀ parts : List Str, (∀ p ∈ parts, c ∉ tl p) → tl (Str.join z parts) = (tl (Str.join ⟨#[c]⟩ parts)).flatMap fun d => if d = c then tl z else [d]
  | [], _ => rfl
  | [x], h => by
    have hx := h x (by simp)
    show tl x = (tl x).flatMap _
    have : ∀ l : List Nat, c ∉ l → l.flatMap (fun d => if d = c then tl z else [d]) = l := by
      intro l
      induction l with
      | nil => intro _; rfl
      | cons a l ih =>
        intro hl
        rw [List.flatMap_cons, ih (fun q => hl (by simp [q])), if_neg (fun q => hl (by simp [q]))]; rfl
    exact (this _ hx).symm
  | x :: y :: r, h => by
    have hx := h x (by simp)
    have ih := join_flat c z (y :: r) fun p hp => h p (List.mem_cons_of_mem _ hp)
    show tl (x ++ z ++ Str.join z (y :: r)) = (tl (x ++ ⟨#[c]⟩ ++ Str.join ⟨#[c]⟩ (y :: r))).flatMap _
    have : ∀ l : List Nat, c ∉ l → l.flatMap (fun d => if d = c then tl z else [d]) = l := by
      intro l
      induction l with
      | nil => intro _; rfl
      | cons a l ih =>
        intro hl
        rw [List.flatMap_cons, ih (fun q => hl (by simp [q])), if_neg (fun q => hl (by simp [q]))]; rfl
    rw [tl_append, tl_append, tl_append, tl_append, List.flatMap_append, List.flatMap_append, this _ hx, ih]
    congr 2
    show tl z = [c].flatMap _
    simp
theorem rep_one (x z : Str) (c : Nat) : tl (Txt.replace x ⟨#[c]⟩ z) = (tl x).flatMap fun d => if d = c then tl z else [d] := by
  rw [StrLaws.replace_one, join_flat c z _ (StrLaws.split_free x c), StrLaws.join_split]
end Mine

namespace Mine
local macro_rules | `(tactic| walk_at "z ctl") => `(tactic| first | with_reducible refine iteT ?_ | with_reducible refine iteF ?_ | with_reducible refine nqN ?_ | with_reducible refine nqR ?_ | with_reducible refine nqB ?_ | with_reducible refine tqN ?_ | with_reducible refine tqB ?_ | with_reducible refine tqR ?_ | with_reducible refine rqR ?_ | with_reducible refine wpAny_execs_nil ?_ | with_reducible refine wpAny_If ?_ | with_reducible refine wpAny_Return_some ?_ | with_reducible refine wpAny_BinOp ?_ | with_reducible refine Subscript_ ?_ | with_reducible refine wpAny_Break ?_ | with_reducible refine Tuple_ ?_ | with_reducible refine List_ ?_ | with_reducible refine spliced_none ?_ | with_reducible refine callWith_method0 ?_ | with_reducible refine isTrue_and_nil ?_ | with_reducible refine isTrue_or_nil ?_ | with_reducible refine isTrue_and ?_ | with_reducible refine isTrue_or ?_ | with_reducible refine isTrue_not ?_ | with_reducible refine BoolOp_one ?_ | with_reducible refine BoolOp_and ?_ | with_reducible refine BoolOp_or ?_ | with_reducible refine wpAny_truthy_bool ?_ | with_reducible refine Constant_bool ?_ | with_reducible refine Constant_none ?_ | with_reducible refine evalPart_none_step ?_ | with_reducible refine evalPart_some_step ?_ | with_reducible refine wpAny_Slice ?_ | with_reducible refine GM.startswith ?_ | with_reducible refine GM.replace ?_ | with_reducible refine GM.find ?_ | with_reducible refine GM.split ?_ | with_reducible refine SC.startswith ?_ | with_reducible refine eq_str ?_ | with_reducible refine in_str ?_ | with_reducible refine ne_bool ?_ | with_reducible refine eq_int ?_ | with_reducible refine lt_int ?_ | with_reducible refine gt_int ?_ | ((with_reducible show wpAny _ _ (exec (Stmt.Assign [Expr.Name _ _] _ _) _) _ _ _); refine wpAny_Assign_Name ?_) | ((with_reducible show wpAny _ _ (exec (Stmt.Expr _ _) _) _ _ _); refine exprZ (by assumption) ?_) | ((with_reducible show wpAny _ _ (exec (Stmt.For _ _ _ _ _) _) _ _ _); refine wpAny_For ?_) | ((with_reducible show wpAny _ _ (eval (Expr.Compare _ [_] [_] _) _) _ _ _); refine wpAny_Compare1 ?_) | ((with_reducible show wpAny _ _ (PySem.isTrue (Expr.Compare _ [_] [_] _) _ _) _ _ _); refine wpAny_isTrue_Compare1 ?_) | ((with_reducible show wpAny _ _ (PySem.isTrue (Expr.Name _ _) _ _) _ _ _); refine isTrue_plain ?_) | ((with_reducible show wpAny _ _ (PySem.isTrue (Expr.Call _ _ _ _) _ _) _ _ _); refine isTrue_plain ?_) | ((with_reducible show wpAny _ _ (eval (Expr.Call (Expr.Attribute _ _ _) _ [] _) _) _ _ _); refine MethodCall_ ?_) | ((with_reducible show wpAny _ _ (eval (Expr.Call (Expr.Name _ _) _ [] _) _) _ _ _); refine Call_ ?_) | ((with_reducible show wpAny _ _ (spliced (backTo _ (starEach (_ :: _) _))) _ _ _); refine spliced_more ?_) | ((with_reducible show wpAny _ _ (callWith _ (Value.builtin _) [] (backTo _ (starEach (_ :: _) _)) []) _ _ _); refine PyProof.Rows.callWith_builtin1 ?_) | ((with_reducible show wpAny _ _ (callWith _ (Value.builtin _) [_] (backTo _ (starEach (_ :: _) _)) []) _ _ _); refine cwM1 ?_) | ((with_reducible show wpAny _ _ (callWith _ (Value.type _) [] (backTo _ (starEach (_ :: _) _)) []) _ _ _); refine PyProof.Rows.callWith_type1 ?_))
local macro_rules | `(tactic| walk_at "z ld") => `(tactic| ((with_reducible rename St _ _ _ _ _ _ _ _ => zS); (with_reducible show wpAny _ _ (eval (Expr.Name _ _) _) _ _ _); first | with_reducible refine ld0 zS (by with_reducible assumption) ?_ | with_reducible refine ld1 zS (by with_reducible assumption) ?_ | with_reducible refine ld2 zS (by with_reducible assumption) ?_ | with_reducible refine ld3 zS (by with_reducible assumption) ?_ | with_reducible refine ld4 zS (by with_reducible assumption) ?_ | with_reducible refine ld5 zS (by with_reducible assumption) ?_ | with_reducible refine ld6 zS (by with_reducible assumption) ?_ | with_reducible refine ld7 zS (by with_reducible assumption) ?_ | with_reducible refine ld8 zS (by with_reducible assumption) ?_ | with_reducible refine ld9 zS (by with_reducible assumption) ?_ | with_reducible refine ld10 zS (by with_reducible assumption) ?_ | with_reducible refine ld11 zS (by with_reducible assumption) ?_ | with_reducible refine ld12 zS (by with_reducible assumption) ?_ | with_reducible refine ld13 zS (by with_reducible assumption) ?_ | with_reducible refine ld14 zS (by with_reducible assumption) ?_ | with_reducible refine ld15 zS (by with_reducible assumption) ?_ | with_reducible refine ld16 zS (by with_reducible assumption) ?_ | with_reducible refine ld17 zS (by with_reducible assumption) ?_ | with_reducible refine ld18 zS (by with_reducible assumption) ?_ | with_reducible refine ld19 zS (by with_reducible assumption) ?_ | with_reducible refine ld20 zS (by with_reducible assumption) ?_ | with_reducible refine ld21 zS (by with_reducible assumption) ?_))
local macro_rules | `(tactic| walk_at "z st") => `(tactic| ((with_reducible rename St _ _ _ _ _ _ _ _ => zS); (with_reducible show wpAny _ _ (storeName _ _ _) _ _ _); (first | with_reducible refine st0 zS (by with_reducible assumption) ?_ | with_reducible refine st1 zS (by with_reducible assumption) ?_ | with_reducible refine st2 zS (by with_reducible assumption) ?_ | with_reducible refine st3 zS (by with_reducible assumption) ?_ | with_reducible refine st4 zS (by with_reducible assumption) ?_ | with_reducible refine st5 zS (by with_reducible assumption) ?_ | with_reducible refine st6 zS (by with_reducible assumption) ?_ | with_reducible refine st7 zS (by with_reducible assumption) ?_ | with_reducible refine st8 zS (by with_reducible assumption) ?_ | with_reducible refine st9 zS (by with_reducible assumption) ?_ | with_reducible refine st10 zS (by with_reducible assumption) ?_ | with_reducible refine st11 zS (by with_reducible assumption) ?_ | with_reducible refine st12 zS (by with_reducible assumption) ?_ | with_reducible refine st13 zS (by with_reducible assumption) ?_ | with_reducible refine st14 zS (by with_reducible assumption) ?_ | with_reducible refine st15 zS (by with_reducible assumption) ?_ | with_reducible refine st16 zS (by with_reducible assumption) ?_ | with_reducible refine st17 zS (by with_reducible assumption) ?_ | with_reducible refine st18 zS (by with_reducible assumption) ?_ | with_reducible refine st19 zS (by with_reducible assumption) ?_ | with_reducible refine st20 zS (by with_reducible assumption) ?_ | with_reducible refine st21 zS (by with_reducible assumption) ?_); clear zS; intro _ _ _))
local macro_rules | `(tactic| walk_at "z op") => `(tactic| ((with_reducible rename St _ _ _ _ _ _ _ _ => zS); (first | with_reducible refine kInt zS ?_ | with_reducible refine kStr zS ?_ | with_reducible refine addI zS ?_ | with_reducible refine subI zS ?_ | with_reducible refine range1 zS ?_ | with_reducible refine findS zS ?_); clear zS; intros))
local macro_rules | `(tactic| walk_at "z new") => `(tactic| ((with_reducible rename St _ _ _ _ _ _ _ _ => zS); (first | ((with_reducible show wpAny _ _ (newTuple _) _ _ _); refine newT zS ?_ ?_; exact Nat.le_of_ble_eq_true rfl) | ((with_reducible show wpAny _ _ (newList _) _ _ _); refine newL zS ?_ ?_; exact Nat.le_of_ble_eq_true rfl)); clear zS; intro _ _ _))
local macro_rules | `(tactic| walk_at "zz") => `(tactic| first | walk_at "z ctl" | walk_at "z ld" | walk_at "z st" | walk_at "z op")
local macro_rules | `(tactic| walk_at "z") => `(tactic| first | with_reducible refine exC ?_ | walk_at "zz")
local macro_rules | `(tactic| walk_at "zn") => `(tactic| first | walk_at "zz" | walk_at "z new")

def defAt (p : Program) (i : Nat) : Option (Arguments × List Stmt × Scope) := match p.main.body[i]? with
  | some (.FunctionDef _ a b _ _ _ sc _ _ _) => some (a, b, sc)
  | _ => none
def paramsOf (p : Program) (i : Nat) : Arguments := match defAt p i with | some (a, _, _) => a | none => default
def bodyOf (p : Program) (i : Nat) : List Stmt := match defAt p i with | some (_, b, _) => b | none => []
def scopeOf (p : Program) (i : Nat) : Scope := match defAt p i with | some (_, _, s) => s | none => default

/-- the def stands at f -/
def Fn (h₀ : Heap) (p : Program) (i : Nat) (dV : Value) (f : Addr) : Prop :=
  ∃ oc od osl name qual kV doc pm an cdv ct, h₀.get? f = some ⟨oc, od, .func (fnOf name qual (paramsOf p i) (bodyOf p i) (scopeOf p i) dV kV doc pm an cdv ct), osl⟩ ∧ h₀.CodeRec cdv qual

def P2 : Program := PySem.Challenge.pw_sn0004_02

structure G2 (h₀ : Heap) (mg mb : Str → Option Value) : Prop where
  lim : h₀.NoLimit
  gn : h₀.Ns mainGlobals mg
  bn : h₀.Ns builtinsNs mb
  g22 : mg "escape" = some (.ref 22)
  g29 : mg "_law_wrote" = some (.ref 29)
  g36 : mg "_law_behind" = some (.ref 36)
  g43 : mg "_law_spans" = some (.ref 43)
  glen : mg "len" = none
  grange : mg "range" = none
  blen : mb "len" = some (.builtin "len")
  brange : mb "range" = some (.type "range")
  f22 : Fn h₀ P2 1 (.ref 15) 22
  d15 : h₀.get? 15 = some (tupOf #[.bool true])
  f29 : Fn h₀ P2 3 .none 29
  f36 : Fn h₀ P2 4 .none 36
  f43 : Fn h₀ P2 5 .none 43

def PairAt (z : PHeap) (v : Value) (c : Str × Str) : Prop := ∃ t tk tk', v = .ref t ∧ z t = some (tupOf #[.str c.1 tk, .str c.2 tk'])
def CodesAt (z : PHeap) (a : Addr) (cs : List (Str × Str)) : Prop :=
  ∃ (vs : List Value) (n : Nat), z a = some (listOf vs.toArray n) ∧ vs.length = cs.length ∧ ∀ (i : Nat) (v : Value), vs[i]? = some v → ∃ c, cs[i]? = some c ∧ PairAt z v c
def SL (z : PHeap) (v : Value) (xs : List Str) : Prop := ∃ (a : Addr) (vs : List Value) (n : Nat), v = .ref a ∧ z a = some (listOf vs.toArray n) ∧ StrsAre vs xs

def behindF : Nat → List (Str × Str) → Str → List Str
  | 0, _, _ => []
  | n + 1, cs, p => cs.flatMap fun c => if Txt.startswith c.2 p = true then [c.1] else if Txt.startswith p c.2 = true then (behindF n cs (Txt.slice p (some c.2.length) none)).map (c.1 ++ ·) else []

section
variable {w : World} {A : Around} {E : Value → Shared → Prop} {h₀ : Heap} {mg mb : Str → Option Value} {g : Shared} {z z' : PHeap} {L : Addr} {vals : List (Option Value)} {ms : List (Addr × Obj)} {s : Shared} {env : Env}

theorem PairAt.mono {v : Value} {c : Str × Str} (h : PairAt z v c) (le : Le z z') : PairAt z' v c := by
  obtain ⟨t, tk, tk', e, h⟩ := h; exact ⟨t, tk, tk', e, le _ _ h⟩
theorem CodesAt.mono {a : Addr} {cs : List (Str × Str)} (h : CodesAt z a cs) (le : Le z z') : CodesAt z' a cs := by
  obtain ⟨vs, n, hz, hl, hc⟩ := h
  exact ⟨vs, n, le _ _ hz, hl, fun i v hv => by obtain ⟨c, h1, h2⟩ := hc i v hv; exact ⟨c, h1, h2.mono le⟩⟩
theorem SL.mono {v : Value} {xs : List Str} (h : SL z v xs) (le : Le z z') : SL z' v xs := by
  obtain ⟨a, vs, n, e, hz, hs⟩ := h; exact ⟨a, vs, n, e, le _ _ hz, hs⟩

def behindG (n : Nat) (cs : List (Str × Str)) (p : Str) (c : Str × Str) : List Str :=
  if Txt.startswith c.2 p = true then [c.1] else if Txt.startswith p c.2 = true then (behindF n cs (Txt.slice p (some c.2.length) none)).map (c.1 ++ ·) else []

def SmallCodes (cs : List (Str × Str)) : Prop := cs.length ≤ 4 ∧ ∀ c ∈ cs, c.1.length ≤ 1 ∧ 1 ≤ c.2.length ∧ c.2.length ≤ 6

def BehindSpec (w : World) (h₀ : Heap) (n : Nat) : Prop := ∀ (A : Around) (s : Shared) (a : Addr) (p : Str) (t : Tok) (cs : List (Str × Str)), A.handled = none → A.depth + n ≤ 900 → Le h₀.get? s.heap.get? → CodesAt s.heap.get? a cs → SmallCodes cs → p.length ≤ n → n ≤ 10 →
  codeAny (model P2 w) A (.call (.ref 36) ⟨[.ref a, .str p t], []⟩) (fun r s' => ∃ v, r = .ok (.ret v) ∧ Keeps s s' ∧ SL (nw s.heap.objs.size s'.heap.get?) v (behindF (n + 1) cs p)) s

theorem behindF_succ (n : Nat) (cs : List (Str × Str)) (p : Str) : behindF (n + 1) cs p = cs.flatMap (behindG n cs p) := rfl
theorem flat_len {α β : Type} (f : α → List β) (B : Nat) : ∀ l : List α, (∀ a ∈ l, (f a).length ≤ B) → (l.flatMap f).length ≤ l.length * B
  | [], _ => by simp
  | a :: l, h => by
    have h1 := h a (by simp)
    have h2 := flat_len f B l fun b hb => h b (by simp [hb])
    rw [List.flatMap_cons, List.length_append, List.length_cons, Nat.succ_mul]; omega
theorem behind_len {cs : List (Str × Str)} (H : SmallCodes cs) : ∀ (n : Nat) (p : Str), (behindF n cs p).length ≤ 4 ^ n
  | 0, _ => by simp [behindF]
  | n + 1, p => by
    rw [behindF_succ]
    have h1 : ∀ c ∈ cs, (behindG n cs p c).length ≤ 4 ^ n := fun c _ => by
      have hp : 1 ≤ 4 ^ n := Nat.one_le_pow _ _ (by decide)
      unfold behindG
      split
      · simpa using hp
      · split
        · rw [List.length_map]; exact behind_len H n _
        · simp
    have h2 := flat_len (behindG n cs p) (4 ^ n) cs h1
    have h3 : cs.length * 4 ^ n ≤ 4 * 4 ^ n := Nat.mul_le_mul_right _ H.1
    rw [Nat.pow_succ]; omega
theorem behind_take_len {cs : List (Str × Str)} (H : SmallCodes cs) (n : Nat) (p : Str) (i : Nat) : ((cs.take i).flatMap (behindG n cs p)).length ≤ 4 ^ (n + 1) := by
  have h1 : ∀ c ∈ cs.take i, (behindG n cs p c).length ≤ 4 ^ n := fun c _ => by
    have hp : 1 ≤ 4 ^ n := Nat.one_le_pow _ _ (by decide)
    unfold behindG
    split
    · simpa using hp
    · split
      · rw [List.length_map]; exact behind_len H n _
      · simp
  have h2 := flat_len (behindG n cs p) (4 ^ n) _ h1
  have h4 : (cs.take i).length ≤ 4 := by rw [List.length_take]; have := H.1; omega
  have h3 : (cs.take i).length * 4 ^ n ≤ 4 * 4 ^ n := Nat.mul_le_mul_right _ h4
  rw [Nat.pow_succ]; omega
theorem behind_bound {cs : List (Str × Str)} (H : SmallCodes cs) : ∀ (n : Nat) (p : Str), ∀ x ∈ behindF n cs p, x.length ≤ n
  | 0, _, x, hx => by simp [behindF] at hx
  | n + 1, p, x, hx => by
    rw [behindF_succ, List.mem_flatMap] at hx
    obtain ⟨c, hc, hx⟩ := hx
    have hb := (H.2 c hc).1
    unfold behindG at hx
    split at hx
    · simp at hx; subst hx; omega
    · split at hx
      · obtain ⟨y, hy, rfl⟩ := List.mem_map.mp hx
        have := behind_bound H n _ y hy
        rw [Str.length_append]; omega
      · simp at hx
theorem take_succ_flat {β : Type} {cs : List (Str × Str)} {i : Nat} {c : Str × Str} (f : Str × Str → List β) (h : cs[i]? = some c) : (cs.take (i + 1)).flatMap f = (cs.take i).flatMap f ++ f c := by
  rw [List.take_add_one, h]; simp [List.flatMap_append]

set_option maxHeartbeats 4000000 in
theorem behind_body {n : Nat} {a : Addr} {p : Str} {t : Tok} {cs : List (Str × Str)} {Q : Flow → Shared → Prop} (IH : ∀ m, m < n → BehindSpec w h₀ m) (G : G2 h₀ mg mb) (hh : A.handled = none) (hd : A.depth + n ≤ 901) (hp : p.length ≤ n) (hn : n ≤ 10) (H : SmallCodes cs)
   (O : EnvOk env L ["codes", "piece", "found", "sign", "wrote", "more"] ["_law_behind", "len"])
   (S : St h₀ g z L ["codes", "piece", "found", "sign", "wrote", "more"] [some (.ref a), some (.str p t), none, none, none, none] [] s)
   (C : CodesAt z a cs)
   (hQ : ∀ v s', Keeps g s' → SL (nw g.heap.objs.size s'.heap.get?) v (behindF (n + 1) cs p) → Q (.ret v) s') :
   wpAny (model P2 w) A (execs (bodyOf P2 4) env) Q E s := by
  obtain ⟨vs, nn, hz, hl, hc⟩ := id C
  refine exC ?_
  repeat walk_at "z"
  refine newL S (by decide) ?_
  clear S; intro D s S
  repeat walk_at "z"
  refine forL (by assumption) hh hz (fun i z' vals' ms' => ∃ x y q vs' n', vals' = [some (.ref a), some (.str p t), some (.ref D), x, y, q] ∧ ms' = [(D, listOf vs'.toArray n')] ∧ StrsAre vs' ((cs.take i).flatMap (behindG n cs p)))
    ⟨_, _, _, [], _, rfl, rfl, by simpa using StrsAre.nil⟩ ?_ ?_
  · intro E' i v z₁ vals' I o ms' s' hv le hJ S
    obtain ⟨x, y, q, vs', n', rfl, rfl, hvs⟩ := hJ
    obtain ⟨c, hci, t', tk, tk', rfl, hzt⟩ := hc i v hv
    have hcm : c ∈ cs := List.mem_of_getElem? hci
    have hcs := H.2 c hcm
    have hsz : vs'.toArray.size ≤ sizeLine := by
      rw [List.size_toArray, hvs.length]
      refine Nat.le_trans (behind_take_len H n p i) ?_
      exact Nat.le_trans (Nat.pow_le_pow_right (by decide) (Nat.succ_le_succ hn)) (by decide)
    refine asg2 S hh (isT S (le _ _ hzt)) ?_
    clear S; intro s S
    repeat walk_at "z"
    refine iteB ?_ ?_
    · intro hst
      repeat walk_at "z"
      with_reducible rename St _ _ _ _ _ _ _ _ => S
      refine getAppend S (.tail _ (.head _)) ?_
      repeat walk_at "z"
      with_reducible rename St _ _ _ _ _ _ _ _ => S
      refine app1 S hsz ?_
      clear S; intro s S
      repeat walk_at "z"
      rw [List.push_toArray] at S
      refine ⟨_, _, _, Le.refl _, ⟨_, _, _, _, _, rfl, rfl, ?_⟩, S⟩
      rw [take_succ_flat _ hci]
      refine hvs.append' ?_
      unfold behindG
      rw [if_pos hst]
      exact .cons _ _ .nil
    · intro hst
      repeat walk_at "z"
      refine iteB ?_ ?_
      · intro hst2
        repeat walk_at "z"
        with_reducible rename St _ _ _ _ _ _ _ _ => S
        refine ldG S O (by decide) G.gn G.g36 ?_
        obtain ⟨oc, od, osl, name, qual, kV, doc, pm, an, cdv, ct, ho, hcd⟩ := G.f36
        refine callWith_fn ho rfl ?_ rfl
        repeat walk_at "z"
        with_reducible rename St _ _ _ _ _ _ _ _ => S
        refine ldB S O (by decide) G.gn G.glen G.bn G.blen ?_
        repeat walk_at "z"
        with_reducible rename St _ _ _ _ _ _ _ _ => S
        refine lenS S (by omega) ?_
        clear S; intro t1 s S
        repeat walk_at "z"
        have hpre : c.2.length ≤ p.length := by
          have := (sw_iff.mp hst2).length_le
          rw [len_tl, len_tl]; exact this
        have hpl : p.length ≤ 2 ^ 20 := by omega
        refine sliceSN S (Nat.le_trans hpl (by decide)) ?_
        clear S; intro t2 s S
        repeat walk_at "z"
        refine ⟨S.base, useSpec S (IH (n - 1) (by omega) A s a _ t2 cs hh (by omega) S.base (C.mono (le.trans S.keep)) H ?_ (by omega)) ?_⟩
        · rw [len_tl, sl_from, List.length_drop, ← len_tl]; omega
        have hn1 : n - 1 + 1 = n := by omega
        rw [hn1]
        intro v z₂ s₂ le₂ len₂ S₂ hv₂
        clear S
        obtain ⟨a₂, vs₂, n₂, rfl, hz₂, hs₂⟩ := (hv₂.mono len₂).mono (nw_le _ _)
        refine forL S₂ hh hz₂ (fun i₂ z' vals' ms' => ∃ q' vs3 n3, vals' = [some (.ref a), some (.str p t), some (.ref D), some (.str c.1 tk), some (.str c.2 tk'), q'] ∧ ms' = [(I, o), (D, listOf vs3.toArray n3)] ∧ StrsAre vs3 ((cs.take i).flatMap (behindG n cs p) ++ ((behindF n cs (Txt.slice p (some c.2.length) none)).take i₂).map (c.1 ++ ·)))
          ⟨_, vs', _, rfl, rfl, by simpa using hvs⟩ ?_ ?_
        · intro E'' i₂ v z₃ vals' I₂ o₂ ms' s' hv le₃ hJ S
          obtain ⟨q', vs3, n3, rfl, rfl, hs3⟩ := hJ
          obtain ⟨m, tm, rfl, hm⟩ := StrsAre.at hs₂ hv
          have hmm := behind_bound H n _ m (List.mem_of_getElem? hm)
          have hsz3 : vs3.toArray.size ≤ sizeLine := by
            rw [List.size_toArray, hs3.length]
            have e1 := behind_take_len H n p (i + 1)
            have e2 : behindG n cs p c = (behindF n cs (Txt.slice p (some c.2.length) none)).map (c.1 ++ ·) := by
              unfold behindG; rw [if_neg (by rw [hst]; decide), if_pos hst2]
            rw [take_succ_flat _ hci, e2, List.length_append, List.length_map] at e1
            rw [List.length_append, List.length_map]
            refine Nat.le_trans (Nat.le_trans (Nat.add_le_add_left ((List.length_take_le' _ _)) _) e1) ?_
            exact Nat.le_trans (Nat.pow_le_pow_right (by decide) (Nat.succ_le_succ hn)) (by decide)
          refine wpAny_assign_Name ?_
          repeat walk_at "z"
          with_reducible rename St _ _ _ _ _ _ _ _ => S
          refine getAppend S (.tail _ (.tail _ (.head _))) ?_
          repeat walk_at "z"
          with_reducible rename St _ _ _ _ _ _ _ _ => S
          refine addS S (by rw [sizeLine_eq]; omega) ?_
          clear S; intro t4 s S
          repeat walk_at "z"
          refine app2 S hsz3 ?_
          clear S; intro s S
          repeat walk_at "z"
          rw [List.push_toArray] at S
          refine ⟨_, _, _, Le.refl _, ⟨_, _, _, rfl, rfl, ?_⟩, S⟩
          rw [List.take_add_one, hm]
          simp only [Option.toList_some, List.map_append, List.map_cons, List.map_nil, ← List.append_assoc]
          exact hs3.append' (.cons _ _ .nil)
        · intro z₃ vals' ms' s' le₃ hJ S
          obtain ⟨q', vs3, n3, rfl, rfl, hs3⟩ := hJ
          repeat walk_at "z"
          refine ⟨_, _, _, le₂.trans le₃, ⟨_, _, _, _, _, rfl, rfl, ?_⟩, S⟩
          rw [take_succ_flat _ hci]
          unfold behindG
          rw [if_neg (by rw [hst]; decide), if_pos hst2]
          rw [hs₂.length, List.take_length] at hs3
          exact hs3
      · intro hst2
        repeat walk_at "z"
        with_reducible rename St _ _ _ _ _ _ _ _ => S
        refine ⟨_, _, _, Le.refl _, ⟨_, _, _, _, _, rfl, rfl, ?_⟩, S⟩
        rw [take_succ_flat _ hci]
        unfold behindG
        rw [if_neg (by rw [hst]; decide), if_neg (by rw [hst2]; decide), List.append_nil]
        exact hvs
  · intro z₁ vals' ms' s' le hJ S
    obtain ⟨x, y, q, vs', n', rfl, rfl, hvs⟩ := hJ
    repeat walk_at "z"
    with_reducible rename St _ _ _ _ _ _ _ _ => S
    obtain ⟨z₂, le₂, h1, h2, S₂⟩ := S.freeze
    refine hQ _ _ S₂.keeps ⟨D, vs', n', rfl, nw_mono S₂.keep _ _ h2, ?_⟩
    rw [behindF_succ]
    rw [hl, List.take_length] at hvs
    exact hvs

theorem sc4 : ScopeOk (scopeOf P2 4) ["codes", "piece", "found", "sign", "wrote", "more"] ["_law_behind", "len"] := by
  refine ⟨?_, ?_, ?_, ?_, ?_, ?_, ?_, ?_, ?_⟩ <;> decide +kernel
theorem behind_spec (G : G2 h₀ mg mb) : ∀ n, BehindSpec w h₀ n := by
  intro n
  induction n using Nat.strongRecOn with
  | ind n IH =>
    intro A s a p t cs hh hd h0 hc H hp hn
    obtain ⟨oc, od, osl, name, qual, kV, doc, pm, an, cdv, ct, ho, hcd⟩ := G.f36
    refine enterFn (names := ["codes", "piece"]) (rest := ["found", "sign", "wrote", "more"]) (vs := [.ref a, .str p t]) ho hcd G.lim h0 (by omega) (BindsTo.of_eq rfl) rfl sc4 rfl rfl ?_
    intro s' env E' O _ S
    refine behind_body (n := n) IH G hh (by rw [Around.deeper]; simp only; omega) hp hn H O S hc ?_
    intro v s' k h
    exact ⟨k, h⟩
end
end Mine

namespace Mine
local macro_rules | `(tactic| walk_at "z ctl") => `(tactic| first | with_reducible refine nqN ?_ | with_reducible refine nqR ?_ | with_reducible refine nqB ?_ | with_reducible refine tqN ?_ | with_reducible refine tqB ?_ | with_reducible refine tqR ?_ | with_reducible refine rqR ?_ | with_reducible refine wpAny_execs_nil ?_ | with_reducible refine wpAny_If ?_ | with_reducible refine wpAny_Return_some ?_ | with_reducible refine wpAny_BinOp ?_ | with_reducible refine Subscript_ ?_ | with_reducible refine wpAny_Break ?_ | with_reducible refine Tuple_ ?_ | with_reducible refine List_ ?_ | with_reducible refine spliced_none ?_ | with_reducible refine callWith_method0 ?_ | with_reducible refine isTrue_and_nil ?_ | with_reducible refine isTrue_or_nil ?_ | with_reducible refine isTrue_and ?_ | with_reducible refine isTrue_or ?_ | with_reducible refine isTrue_not ?_ | with_reducible refine BoolOp_one ?_ | with_reducible refine BoolOp_and ?_ | with_reducible refine BoolOp_or ?_ | with_reducible refine wpAny_truthy_bool ?_ | with_reducible refine Constant_bool ?_ | with_reducible refine Constant_none ?_ | with_reducible refine evalPart_none_step ?_ | with_reducible refine evalPart_some_step ?_ | with_reducible refine wpAny_Slice ?_ | with_reducible refine GM.startswith ?_ | with_reducible refine GM.replace ?_ | with_reducible refine GM.find ?_ | with_reducible refine GM.split ?_ | with_reducible refine SC.startswith ?_ | with_reducible refine eq_str ?_ | with_reducible refine in_str ?_ | with_reducible refine ne_bool ?_ | with_reducible refine eq_int ?_ | with_reducible refine lt_int ?_ | with_reducible refine gt_int ?_ | ((with_reducible show wpAny _ _ (exec (Stmt.Assign [Expr.Name _ _] _ _) _) _ _ _); refine wpAny_Assign_Name ?_) | ((with_reducible show wpAny _ _ (exec (Stmt.Expr _ _) _) _ _ _); refine exprZ (by assumption) ?_) | ((with_reducible show wpAny _ _ (exec (Stmt.For _ _ _ _ _) _) _ _ _); refine wpAny_For ?_) | ((with_reducible show wpAny _ _ (eval (Expr.Compare _ [_] [_] _) _) _ _ _); refine wpAny_Compare1 ?_) | ((with_reducible show wpAny _ _ (PySem.isTrue (Expr.Compare _ [_] [_] _) _ _) _ _ _); refine wpAny_isTrue_Compare1 ?_) | ((with_reducible show wpAny _ _ (PySem.isTrue (Expr.Name _ _) _ _) _ _ _); refine isTrue_plain ?_) | ((with_reducible show wpAny _ _ (PySem.isTrue (Expr.Call _ _ _ _) _ _) _ _ _); refine isTrue_plain ?_) | ((with_reducible show wpAny _ _ (eval (Expr.Call (Expr.Attribute _ _ _) _ [] _) _) _ _ _); refine MethodCall_ ?_) | ((with_reducible show wpAny _ _ (eval (Expr.Call (Expr.Name _ _) _ [] _) _) _ _ _); refine Call_ ?_) | ((with_reducible show wpAny _ _ (spliced (backTo _ (starEach (_ :: _) _))) _ _ _); refine spliced_more ?_) | ((with_reducible show wpAny _ _ (callWith _ (Value.builtin _) [] (backTo _ (starEach (_ :: _) _)) []) _ _ _); refine PyProof.Rows.callWith_builtin1 ?_) | ((with_reducible show wpAny _ _ (callWith _ (Value.builtin _) [_] (backTo _ (starEach (_ :: _) _)) []) _ _ _); refine cwM1 ?_) | ((with_reducible show wpAny _ _ (callWith _ (Value.type _) [] (backTo _ (starEach (_ :: _) _)) []) _ _ _); refine PyProof.Rows.callWith_type1 ?_))
local macro_rules | `(tactic| walk_at "z ld") => `(tactic| ((with_reducible rename St _ _ _ _ _ _ _ _ => zS); (with_reducible show wpAny _ _ (eval (Expr.Name _ _) _) _ _ _); first | with_reducible refine ld0 zS (by with_reducible assumption) ?_ | with_reducible refine ld1 zS (by with_reducible assumption) ?_ | with_reducible refine ld2 zS (by with_reducible assumption) ?_ | with_reducible refine ld3 zS (by with_reducible assumption) ?_ | with_reducible refine ld4 zS (by with_reducible assumption) ?_ | with_reducible refine ld5 zS (by with_reducible assumption) ?_ | with_reducible refine ld6 zS (by with_reducible assumption) ?_ | with_reducible refine ld7 zS (by with_reducible assumption) ?_ | with_reducible refine ld8 zS (by with_reducible assumption) ?_ | with_reducible refine ld9 zS (by with_reducible assumption) ?_ | with_reducible refine ld10 zS (by with_reducible assumption) ?_ | with_reducible refine ld11 zS (by with_reducible assumption) ?_ | with_reducible refine ld12 zS (by with_reducible assumption) ?_ | with_reducible refine ld13 zS (by with_reducible assumption) ?_ | with_reducible refine ld14 zS (by with_reducible assumption) ?_ | with_reducible refine ld15 zS (by with_reducible assumption) ?_ | with_reducible refine ld16 zS (by with_reducible assumption) ?_ | with_reducible refine ld17 zS (by with_reducible assumption) ?_ | with_reducible refine ld18 zS (by with_reducible assumption) ?_ | with_reducible refine ld19 zS (by with_reducible assumption) ?_ | with_reducible refine ld20 zS (by with_reducible assumption) ?_ | with_reducible refine ld21 zS (by with_reducible assumption) ?_))
local macro_rules | `(tactic| walk_at "z st") => `(tactic| ((with_reducible rename St _ _ _ _ _ _ _ _ => zS); (with_reducible show wpAny _ _ (storeName _ _ _) _ _ _); (first | with_reducible refine st0 zS (by with_reducible assumption) ?_ | with_reducible refine st1 zS (by with_reducible assumption) ?_ | with_reducible refine st2 zS (by with_reducible assumption) ?_ | with_reducible refine st3 zS (by with_reducible assumption) ?_ | with_reducible refine st4 zS (by with_reducible assumption) ?_ | with_reducible refine st5 zS (by with_reducible assumption) ?_ | with_reducible refine st6 zS (by with_reducible assumption) ?_ | with_reducible refine st7 zS (by with_reducible assumption) ?_ | with_reducible refine st8 zS (by with_reducible assumption) ?_ | with_reducible refine st9 zS (by with_reducible assumption) ?_ | with_reducible refine st10 zS (by with_reducible assumption) ?_ | with_reducible refine st11 zS (by with_reducible assumption) ?_ | with_reducible refine st12 zS (by with_reducible assumption) ?_ | with_reducible refine st13 zS (by with_reducible assumption) ?_ | with_reducible refine st14 zS (by with_reducible assumption) ?_ | with_reducible refine st15 zS (by with_reducible assumption) ?_ | with_reducible refine st16 zS (by with_reducible assumption) ?_ | with_reducible refine st17 zS (by with_reducible assumption) ?_ | with_reducible refine st18 zS (by with_reducible assumption) ?_ | with_reducible refine st19 zS (by with_reducible assumption) ?_ | with_reducible refine st20 zS (by with_reducible assumption) ?_ | with_reducible refine st21 zS (by with_reducible assumption) ?_); clear zS; intro _ _ _))
local macro_rules | `(tactic| walk_at "z op") => `(tactic| ((with_reducible rename St _ _ _ _ _ _ _ _ => zS); (first | with_reducible refine kInt zS ?_ | with_reducible refine kStr zS ?_ | with_reducible refine addI zS ?_ | with_reducible refine subI zS ?_ | with_reducible refine range1 zS ?_ | with_reducible refine findS zS ?_); clear zS; intros))
local macro_rules | `(tactic| walk_at "zz") => `(tactic| first | walk_at "z ctl" | walk_at "z ld" | walk_at "z st" | walk_at "z op")
local macro_rules | `(tactic| walk_at "z") => `(tactic| first | with_reducible refine exC ?_ | walk_at "zz")

def cutsG (cs : List (Str × Str)) (p : Str) (c : Str × Str) (cut : Nat) : List Str :=
  if (Txt.slice c.2 (some (cut : Int)) none).length < p.length ∧ Txt.startswith p (Txt.slice c.2 (some (cut : Int)) none) = true then
    (behindF 9 cs (Txt.slice p (some ((Txt.slice c.2 (some (cut : Int)) none).length : Int)) none)).map (c.1 ++ ·) else []
def isIn (y x : Str) : Bool := !(Builtin.Str.occurrences x y 0 x.length 1).isEmpty
def spansG (cs : List (Str × Str)) (p : Str) (c : Str × Str) : List Str :=
  (if isIn p c.2 = true then [c.1] else []) ++ (List.range c.2.length).flatMap (cutsG cs p c)
def spansF (cs : List (Str × Str)) (p : Str) : List Str := if p = Str.ofString "" then [Str.ofString ""] else cs.flatMap (spansG cs p)

section
variable {w : World} {A : Around} {E : Value → Shared → Prop} {h₀ : Heap} {mg mb : Str → Option Value} {g : Shared} {z z' : PHeap} {L : Addr} {vals : List (Option Value)} {ms : List (Addr × Obj)} {s : Shared} {env : Env}

def BB : Nat := 4 ^ 9
theorem cuts_len {cs : List (Str × Str)} (H : SmallCodes cs) (p : Str) (c : Str × Str) (k : Nat) : (cutsG cs p c k).length ≤ BB := by
  unfold cutsG
  split
  · rw [List.length_map]; exact behind_len H 9 _
  · simp
theorem cuts_sum {cs : List (Str × Str)} (H : SmallCodes cs) (p : Str) {c : Str × Str} (hc : c ∈ cs) {k : Nat} (hk : k ≤ c.2.length) : ((List.range k).flatMap (cutsG cs p c)).length ≤ 6 * BB := by
  have h2 := flat_len (cutsG cs p c) BB (List.range k) fun _ _ => cuts_len H p c _
  rw [List.length_range] at h2
  have h3 := (H.2 c hc).2.2
  exact Nat.le_trans h2 (Nat.mul_le_mul_right _ (Nat.le_trans hk h3))
theorem spans_len {cs : List (Str × Str)} (H : SmallCodes cs) (p : Str) {c : Str × Str} (hc : c ∈ cs) : (spansG cs p c).length ≤ 1 + 6 * BB := by
  unfold spansG
  have := cuts_sum H p hc (Nat.le_refl _)
  rw [List.length_append]
  refine Nat.add_le_add ?_ this
  split <;> simp
theorem spans_take {cs : List (Str × Str)} (H : SmallCodes cs) (p : Str) {i : Nat} {c : Str × Str} (hi : cs[i]? = some c) : ((cs.take i).flatMap (spansG cs p)).length ≤ 3 * (1 + 6 * BB) := by
  have h2 := flat_len (spansG cs p) (1 + 6 * BB) (cs.take i) fun c hc => spans_len H p (List.mem_of_mem_take hc)
  have h3 : i < cs.length := (List.getElem?_eq_some_iff.mp hi).1
  have h4 := H.1
  exact Nat.le_trans h2 (Nat.mul_le_mul_right _ (by rw [List.length_take]; omega))
theorem spans_fit {n k : Nat} (h1 : n ≤ 3 * (1 + 6 * BB)) (h2 : k ≤ 1 + 6 * BB) : n + k ≤ sizeLine := by
  have : 3 * (1 + 6 * BB) + (1 + 6 * BB) ≤ sizeLine := by decide
  exact Nat.le_trans (Nat.add_le_add h1 h2) this
theorem take_range_flat {β : Type} (f : Nat → List β) (k : Nat) : (List.range (k + 1)).flatMap f = (List.range k).flatMap f ++ f k := by
  rw [List.range_succ, List.flatMap_append]; simp

set_option maxHeartbeats 4000000 in
theorem spans_body {a : Addr} {p : Str} {t : Tok} {cs : List (Str × Str)} {Q : Flow → Shared → Prop} (G : G2 h₀ mg mb) (hh : A.handled = none) (hd : A.depth ≤ 800) (hp : p.length ≤ 9) (H : SmallCodes cs)
   (O : EnvOk env L ["codes", "piece", "found", "sign", "wrote", "cut", "tail", "more"] ["range", "len", "_law_behind"])
   (S : St h₀ g z L ["codes", "piece", "found", "sign", "wrote", "cut", "tail", "more"] [some (.ref a), some (.str p t), none, none, none, none, none, none] [] s)
   (C : CodesAt z a cs)
   (hQ : ∀ v s', Keeps g s' → SL (nw g.heap.objs.size s'.heap.get?) v (spansF cs p) → Q (.ret v) s') :
   wpAny (model P2 w) A (execs (bodyOf P2 5) env) Q E s := by
  obtain ⟨vs, nn, hz, hl, hc⟩ := id C
  refine exC ?_
  repeat walk_at "z"
  refine iteB ?_ ?_
  · intro he
    repeat walk_at "z"
    with_reducible rename St _ _ _ _ _ _ _ _ => S
    refine newL S (by simp [sizeLine]) ?_
    clear S; intro D s S
    repeat walk_at "z"
    with_reducible rename St _ _ _ _ _ _ _ _ => S
    obtain ⟨z₂, le₂, h1, h2, S₂⟩ := S.freeze
    refine hQ _ _ S₂.keeps ⟨D, _, 0, rfl, nw_mono S₂.keep _ _ h2, ?_⟩
    unfold spansF
    rw [if_pos (by exact eq_of_beq he)]
    exact .cons _ _ .nil
  intro he
  repeat walk_at "z"
  with_reducible rename St _ _ _ _ _ _ _ _ => S
  refine newL S (by decide) ?_
  clear S; intro D s S
  repeat walk_at "zz"
  with_reducible rename St _ _ _ _ _ _ _ _ => S
  refine exJ (fun s' => ∃ z' x y q1 q2 q3 vs' n', Le z z' ∧ St h₀ g z' L ["codes", "piece", "found", "sign", "wrote", "cut", "tail", "more"] [some (.ref a), some (.str p t), some (.ref D), x, y, q1, q2, q3] [(D, listOf vs'.toArray n')] s' ∧ StrsAre vs' (cs.flatMap (spansG cs p))) ?_ ?_
  · intro Q' hQ'
    repeat walk_at "z"
    refine forL (by assumption) hh hz (fun i z' vals' ms' => ∃ x y q1 q2 q3 vs' n', vals' = [some (.ref a), some (.str p t), some (.ref D), x, y, q1, q2, q3] ∧ ms' = [(D, listOf vs'.toArray n')] ∧ StrsAre vs' ((cs.take i).flatMap (spansG cs p)))
      ⟨_, _, _, _, _, [], _, rfl, rfl, by simpa using StrsAre.nil⟩ ?_ ?_
    · intro E' i v z₁ vals' I o ms' s' hv le hJ S
      obtain ⟨x, y, q1, q2, q3, vs', n', rfl, rfl, hvs⟩ := hJ
      obtain ⟨c, hci, t', tk, tk', rfl, hzt⟩ := hc i v hv
      have hcm : c ∈ cs := List.mem_of_getElem? hci
      have hcs := H.2 c hcm
      have htk := spans_take H p hci
      have hl1 := hvs.length
      refine asg2 S hh (isT S (le _ _ hzt)) ?_
      clear S; intro s S
      repeat walk_at "zz"
      with_reducible rename St _ _ _ _ _ _ _ _ => S
      refine exJ (fun s' => ∃ vs' n', St h₀ g z₁ L ["codes", "piece", "found", "sign", "wrote", "cut", "tail", "more"] [some (.ref a), some (.str p t), some (.ref D), some (.str c.1 tk), some (.str c.2 tk'), q1, q2, q3] [(I, o), (D, listOf vs'.toArray n')] s' ∧
        StrsAre vs' ((cs.take i).flatMap (spansG cs p) ++ (if isIn p c.2 = true then [c.1] else []))) ?_ ?_
      · intro Q₁ hQ₁
        repeat walk_at "z"
        refine iteB ?_ ?_
        · intro hin
          repeat walk_at "z"
          with_reducible rename St _ _ _ _ _ _ _ _ => S
          refine getAppend S (.tail _ (.head _)) ?_
          repeat walk_at "z"
          with_reducible rename St _ _ _ _ _ _ _ _ => S
          refine app1 S (by rw [List.size_toArray, hl1]; exact spans_fit (k := 0) htk (Nat.zero_le _)) ?_
          clear S; intro s S
          repeat walk_at "z"
          rw [List.push_toArray] at S
          refine hQ₁ _ ⟨_, _, S, ?_⟩
          rw [if_pos (show isIn p c.2 = true from hin)]
          exact hvs.append' (.cons _ _ .nil)
        · intro hin
          repeat walk_at "z"
          with_reducible rename St _ _ _ _ _ _ _ _ => S
          refine hQ₁ _ ⟨_, _, S, ?_⟩
          rw [if_neg (show ¬ isIn p c.2 = true from by rw [show isIn p c.2 = false from hin]; decide), List.append_nil]
          exact hvs
      · clear S hvs hl1
        rintro s ⟨vs', n', S, hvs⟩
        refine exC ?_
        repeat walk_at "zz"
        refine ldB S O (by decide) G.gn G.grange G.bn G.brange ?_
        repeat walk_at "zz"
        refine ldB S O (by decide) G.gn G.glen G.bn G.blen ?_
        repeat walk_at "zz"
        with_reducible rename St _ _ _ _ _ _ _ _ => S
        refine lenS S (by omega) ?_
        clear S; intro t1 s S
        repeat walk_at "zz"
        with_reducible rename St _ _ _ _ _ _ _ _ => S
        refine forR S hh (by omega) (fun k z' vals' ms' => ∃ q1 q2 q3 vs2 n2, vals' = [some (.ref a), some (.str p t), some (.ref D), some (.str c.1 tk), some (.str c.2 tk'), q1, q2, q3] ∧ ms' = [(I, o), (D, listOf vs2.toArray n2)] ∧
            StrsAre vs2 ((cs.take i).flatMap (spansG cs p) ++ ((if isIn p c.2 = true then [c.1] else []) ++ (List.range k).flatMap (cutsG cs p c))))
          ⟨_, _, _, vs', _, rfl, rfl, by simpa using hvs⟩ ?_ ?_
        · clear S hvs
          intro E₂ k tkc z₂ vals' I₂ o₂ ms' s hk le₂ hJ S
          obtain ⟨q1, q2, q3, vs2, n2, rfl, rfl, hvs⟩ := hJ
          have hl2 := hvs.length
          have hcut := cuts_sum H p hcm (Nat.le_of_lt hk)
          refine wpAny_assign_Name ?_
          repeat walk_at "zz"
          refine exC ?_
          repeat walk_at "zz"
          with_reducible rename St _ _ _ _ _ _ _ _ => S
          refine sliceSN S (Nat.le_trans hcs.2.2 (by decide)) ?_
          clear S; intro t2 s S
          repeat walk_at "zz"
          have htl : (Txt.slice c.2 (some (k : Int)) none).length ≤ 6 := by
            rw [len_tl, sl_from, List.length_drop, ← len_tl]; omega
          have htp : 1 ≤ (Txt.slice c.2 (some (k : Int)) none).length := by
            rw [len_tl, sl_from, List.length_drop, ← len_tl]; omega
          refine exJ (fun s' => ∃ z₃ q3 vs2 n2, Le z₂ z₃ ∧ St h₀ g z₃ L ["codes", "piece", "found", "sign", "wrote", "cut", "tail", "more"] [some (.ref a), some (.str p t), some (.ref D), some (.str c.1 tk), some (.str c.2 tk'), some (.int k tkc), some (.str (Txt.slice c.2 (some (k : Int)) none) t2), q3] [(I₂, o₂), (I, o), (D, listOf vs2.toArray n2)] s' ∧
            StrsAre vs2 ((cs.take i).flatMap (spansG cs p) ++ ((if isIn p c.2 = true then [c.1] else []) ++ (List.range (k + 1)).flatMap (cutsG cs p c)))) ?_ ?_
          · intro Q₂ hQ₂
            have no (s : Shared) (hno : ¬ ((Txt.slice c.2 (some (k : Int)) none).length < p.length ∧ Txt.startswith p (Txt.slice c.2 (some (k : Int)) none) = true))
                (S : St h₀ g z₂ L ["codes", "piece", "found", "sign", "wrote", "cut", "tail", "more"] [some (.ref a), some (.str p t), some (.ref D), some (.str c.1 tk), some (.str c.2 tk'), some (.int k tkc), some (.str (Txt.slice c.2 (some (k : Int)) none) t2), q3] [(I₂, o₂), (I, o), (D, listOf vs2.toArray n2)] s) : Q₂ .next s := by
              refine hQ₂ _ ⟨_, _, _, _, Le.refl _, S, ?_⟩
              rw [take_range_flat, show cutsG cs p c k = [] from if_neg hno, List.append_nil]
              exact hvs
            repeat walk_at "zz"
            with_reducible rename St _ _ _ _ _ _ _ _ => S
            refine ldB S O (by decide) G.gn G.glen G.bn G.blen ?_
            repeat walk_at "zz"
            with_reducible rename St _ _ _ _ _ _ _ _ => S
            refine lenS S (by omega) ?_
            clear S; intro t3 s S
            repeat walk_at "zz"
            with_reducible rename St _ _ _ _ _ _ _ _ => S
            refine ldB S O (by decide) G.gn G.glen G.bn G.blen ?_
            repeat walk_at "zz"
            with_reducible rename St _ _ _ _ _ _ _ _ => S
            refine lenS S (by omega) ?_
            clear S; intro t4 s S
            repeat walk_at "zz"
            with_reducible rename St _ _ _ _ _ _ _ _ => S
            refine iteB ?_ ?_
            · intro hlt
              have hlt' : (Txt.slice c.2 (some (k : Int)) none).length < p.length := by
                have := of_decide_eq_true hlt; omega
              repeat walk_at "zz"
              with_reducible rename St _ _ _ _ _ _ _ _ => S
              refine iteB ?_ ?_
              · intro hsw
                repeat walk_at "zz"
                rw [if_pos rfl]
                refine exC ?_
                repeat walk_at "zz"
                with_reducible rename St _ _ _ _ _ _ _ _ => S
                refine ldG S O (by decide) G.gn G.g36 ?_
                obtain ⟨oc, od, osl, name, qual, kV, doc, pm, an, cdv, ct, ho, hcd⟩ := G.f36
                refine callWith_fn ho rfl ?_ rfl
                repeat walk_at "zz"
                with_reducible rename St _ _ _ _ _ _ _ _ => S
                refine ldB S O (by decide) G.gn G.glen G.bn G.blen ?_
                repeat walk_at "zz"
                with_reducible rename St _ _ _ _ _ _ _ _ => S
                refine lenS S (by omega) ?_
                clear S; intro t5 s S
                repeat walk_at "zz"
                with_reducible rename St _ _ _ _ _ _ _ _ => S
                refine sliceSN S (Nat.le_trans hp (by decide)) ?_
                clear S; intro t6 s S
                repeat walk_at "zz"
                refine ⟨S.base, useSpec S (behind_spec G 8 A s a _ t6 cs hh (by omega) S.base (C.mono ((le.trans le₂).trans S.keep)) H ?_ (by omega)) ?_⟩
                · rw [len_tl, sl_from, List.length_drop, ← len_tl]; omega
                intro v z₄ s₂ le₄ len₄ S₂ hv₂
                clear S
                obtain ⟨a₂, vs₂, n₂, rfl, hz₂, hs₂⟩ := (hv₂.mono len₄).mono (nw_le _ _)
                have hfin : cutsG cs p c k = (behindF 9 cs (Txt.slice p (some ((Txt.slice c.2 (some (k : Int)) none).length : Int)) none)).map (c.1 ++ ·) := if_pos ⟨hlt', hsw⟩
                refine forL S₂ hh hz₂ (fun i₂ z' vals' ms' => ∃ q3 vs3 n3, vals' = [some (.ref a), some (.str p t), some (.ref D), some (.str c.1 tk), some (.str c.2 tk'), some (.int k tkc), some (.str (Txt.slice c.2 (some (k : Int)) none) t2), q3] ∧ ms' = [(I₂, o₂), (I, o), (D, listOf vs3.toArray n3)] ∧
                    StrsAre vs3 (((cs.take i).flatMap (spansG cs p) ++ ((if isIn p c.2 = true then [c.1] else []) ++ (List.range k).flatMap (cutsG cs p c))) ++ ((behindF 9 cs (Txt.slice p (some ((Txt.slice c.2 (some (k : Int)) none).length : Int)) none)).take i₂).map (c.1 ++ ·)))
                  ⟨_, vs2, _, rfl, rfl, by simpa using hvs⟩ ?_ ?_
                · intro E'' i₂ v z₃ vals' I₃ o₃ ms' s' hv le₃ hJ S
                  obtain ⟨q', vs3, n3, rfl, rfl, hs3⟩ := hJ
                  obtain ⟨m, tm, rfl, hm⟩ := StrsAre.at hs₂ hv
                  have hmm := behind_bound H 9 _ m (List.mem_of_getElem? hm)
                  have hsz3 : vs3.toArray.size ≤ sizeLine := by
                    rw [List.size_toArray, hs3.length]
                    have e1 := cuts_sum H p hcm (show k + 1 ≤ c.2.length by omega)
                    rw [take_range_flat, hfin, List.length_append, List.length_map] at e1
                    rw [List.length_append, List.length_append, List.length_append, List.length_map]
                    have e2 := List.length_take_le' i₂ (behindF 9 cs (Txt.slice p (some ((Txt.slice c.2 (some (k : Int)) none).length : Int)) none))
                    have e3 : (if isIn p c.2 = true then [c.1] else []).length ≤ 1 := by split <;> simp
                    have := spans_fit htk (k := (if isIn p c.2 = true then [c.1] else []).length + ((List.range k).flatMap (cutsG cs p c)).length + ((behindF 9 cs (Txt.slice p (some ((Txt.slice c.2 (some (k : Int)) none).length : Int)) none)).take i₂).length) (by omega)
                    omega
                  refine wpAny_assign_Name ?_
                  repeat walk_at "z"
                  with_reducible rename St _ _ _ _ _ _ _ _ => S
                  refine getAppend S (.tail _ (.tail _ (.tail _ (.head _)))) ?_
                  repeat walk_at "z"
                  with_reducible rename St _ _ _ _ _ _ _ _ => S
                  refine addS S (by rw [sizeLine_eq]; omega) ?_
                  clear S; intro t7 s S
                  repeat walk_at "z"
                  refine app3 S hsz3 ?_
                  clear S; intro s S
                  repeat walk_at "z"
                  rw [List.push_toArray] at S
                  refine ⟨_, _, _, Le.refl _, ⟨_, _, _, rfl, rfl, ?_⟩, S⟩
                  rw [List.take_add_one, hm]
                  simp only [Option.toList_some, List.map_append, List.map_cons, List.map_nil, ← List.append_assoc]
                  simp only [← List.append_assoc] at hs3
                  exact hs3.append' (.cons _ _ .nil)
                · intro z₃ vals' ms' s' le₃ hJ S
                  obtain ⟨q', vs3, n3, rfl, rfl, hs3⟩ := hJ
                  repeat walk_at "zz"
                  with_reducible rename St _ _ _ _ _ _ _ _ => S
                  refine hQ₂ _ ⟨_, _, _, _, le₄.trans le₃, S, ?_⟩
                  rw [take_range_flat, hfin]
                  rw [hs₂.length, List.take_length] at hs3
                  simp only [← List.append_assoc] at hs3 ⊢
                  exact hs3
              · intro hsw
                repeat walk_at "zz"
                rw [if_neg Bool.false_ne_true]
                repeat walk_at "zz"
                with_reducible rename St _ _ _ _ _ _ _ _ => S
                exact no _ (fun q => by rw [hsw] at q; exact absurd q.2 Bool.false_ne_true) S
            · intro hlt
              repeat walk_at "zz"
              rw [if_neg Bool.false_ne_true]
              repeat walk_at "zz"
              with_reducible rename St _ _ _ _ _ _ _ _ => S
              exact no _ (fun q => by have := of_decide_eq_false hlt; omega) S
          · clear hvs hl2
            rintro s ⟨z₃, q3, vs2, n2, le₃, S, hvs⟩
            repeat walk_at "z"
            exact ⟨_, _, _, le₃, ⟨_, _, _, _, _, rfl, rfl, hvs⟩, S⟩
        · clear S hvs
          intro z₂ vals' ms' s le₂ hJ S
          obtain ⟨q1, q2, q3, vs2, n2, rfl, rfl, hvs⟩ := hJ
          repeat walk_at "z"
          refine ⟨_, _, _, le₂, ⟨_, _, _, _, _, _, _, rfl, rfl, ?_⟩, S⟩
          rw [take_succ_flat _ hci]
          exact hvs
    · intro z₂ vals' ms' s le₂ hJ S
      obtain ⟨x, y, q1, q2, q3, vs', n', rfl, rfl, hvs⟩ := hJ
      refine hQ' _ ⟨_, _, _, _, _, _, _, _, le₂, S, ?_⟩
      rw [hl, List.take_length] at hvs
      exact hvs
  · clear S
    rintro s ⟨z', x, y, q1, q2, q3, vs', n', le', S, hvs⟩
    repeat walk_at "z"
    with_reducible rename St _ _ _ _ _ _ _ _ => S
    obtain ⟨z₂, le₂, h1, h2, S₂⟩ := S.freeze
    refine hQ _ _ S₂.keeps ⟨D, vs', n', rfl, nw_mono S₂.keep _ _ h2, ?_⟩
    unfold spansF
    rw [if_neg (fun q => by rw [q] at he; simp at he)]
    exact hvs
theorem sc5 : ScopeOk (scopeOf P2 5) ["codes", "piece", "found", "sign", "wrote", "cut", "tail", "more"] ["range", "len", "_law_behind"] := by
  refine ⟨?_, ?_, ?_, ?_, ?_, ?_, ?_, ?_, ?_⟩ <;> decide +kernel
theorem spans_spec (G : G2 h₀ mg mb) {a : Addr} {p : Str} {t : Tok} {cs : List (Str × Str)} (hh : A.handled = none) (hd : A.depth ≤ 700) (h0 : Le h₀.get? s.heap.get?) (hc : CodesAt s.heap.get? a cs) (H : SmallCodes cs) (hp : p.length ≤ 9) :
    codeAny (model P2 w) A (.call (.ref 43) ⟨[.ref a, .str p t], []⟩) (fun r s' => ∃ v, r = .ok (.ret v) ∧ Keeps s s' ∧ SL (nw s.heap.objs.size s'.heap.get?) v (spansF cs p)) s := by
  obtain ⟨oc, od, osl, name, qual, kV, doc, pm, an, cdv, ct, ho, hcd⟩ := G.f43
  refine enterFn (names := ["codes", "piece"]) (rest := ["found", "sign", "wrote", "cut", "tail", "more"]) (vs := [.ref a, .str p t]) ho hcd G.lim h0 (by omega) (BindsTo.of_eq rfl) rfl sc5 rfl rfl ?_
  intro s' env E' O _ S
  refine spans_body G hh (by rw [Around.deeper]; simp only; omega) hp H O S hc ?_
  intro v s' k h
  exact ⟨k, h⟩
end
end Mine

namespace Mine
local macro_rules | `(tactic| walk_at "z ctl") => `(tactic| first | with_reducible refine iteT ?_ | with_reducible refine iteF ?_ | with_reducible refine nqN ?_ | with_reducible refine nqR ?_ | with_reducible refine nqB ?_ | with_reducible refine tqN ?_ | with_reducible refine tqB ?_ | with_reducible refine tqR ?_ | with_reducible refine rqR ?_ | with_reducible refine wpAny_execs_nil ?_ | with_reducible refine wpAny_If ?_ | with_reducible refine wpAny_Return_some ?_ | with_reducible refine wpAny_BinOp ?_ | with_reducible refine Subscript_ ?_ | with_reducible refine wpAny_Break ?_ | with_reducible refine Tuple_ ?_ | with_reducible refine List_ ?_ | with_reducible refine spliced_none ?_ | with_reducible refine callWith_method0 ?_ | with_reducible refine isTrue_and_nil ?_ | with_reducible refine isTrue_or_nil ?_ | with_reducible refine isTrue_and ?_ | with_reducible refine isTrue_or ?_ | with_reducible refine isTrue_not ?_ | with_reducible refine BoolOp_one ?_ | with_reducible refine BoolOp_and ?_ | with_reducible refine BoolOp_or ?_ | with_reducible refine wpAny_truthy_bool ?_ | with_reducible refine Constant_bool ?_ | with_reducible refine Constant_none ?_ | with_reducible refine evalPart_none_step ?_ | with_reducible refine evalPart_some_step ?_ | with_reducible refine wpAny_Slice ?_ | with_reducible refine GM.startswith ?_ | with_reducible refine GM.replace ?_ | with_reducible refine GM.find ?_ | with_reducible refine GM.split ?_ | with_reducible refine SC.startswith ?_ | with_reducible refine eq_str ?_ | with_reducible refine in_str ?_ | with_reducible refine ne_bool ?_ | with_reducible refine eq_int ?_ | with_reducible refine lt_int ?_ | with_reducible refine gt_int ?_ | ((with_reducible show wpAny _ _ (exec (Stmt.Assign [Expr.Name _ _] _ _) _) _ _ _); refine wpAny_Assign_Name ?_) | ((with_reducible show wpAny _ _ (exec (Stmt.Expr _ _) _) _ _ _); refine exprZ (by assumption) ?_) | ((with_reducible show wpAny _ _ (exec (Stmt.For _ _ _ _ _) _) _ _ _); refine wpAny_For ?_) | ((with_reducible show wpAny _ _ (eval (Expr.Compare _ [_] [_] _) _) _ _ _); refine wpAny_Compare1 ?_) | ((with_reducible show wpAny _ _ (PySem.isTrue (Expr.Compare _ [_] [_] _) _ _) _ _ _); refine wpAny_isTrue_Compare1 ?_) | ((with_reducible show wpAny _ _ (PySem.isTrue (Expr.Name _ _) _ _) _ _ _); refine isTrue_plain ?_) | ((with_reducible show wpAny _ _ (PySem.isTrue (Expr.Call _ _ _ _) _ _) _ _ _); refine isTrue_plain ?_) | ((with_reducible show wpAny _ _ (eval (Expr.Call (Expr.Attribute _ _ _) _ [] _) _) _ _ _); refine MethodCall_ ?_) | ((with_reducible show wpAny _ _ (eval (Expr.Call (Expr.Name _ _) _ [] _) _) _ _ _); refine Call_ ?_) | ((with_reducible show wpAny _ _ (spliced (backTo _ (starEach (_ :: _) _))) _ _ _); refine spliced_more ?_) | ((with_reducible show wpAny _ _ (callWith _ (Value.builtin _) [] (backTo _ (starEach (_ :: _) _)) []) _ _ _); refine PyProof.Rows.callWith_builtin1 ?_) | ((with_reducible show wpAny _ _ (callWith _ (Value.builtin _) [_] (backTo _ (starEach (_ :: _) _)) []) _ _ _); refine cwM1 ?_) | ((with_reducible show wpAny _ _ (callWith _ (Value.type _) [] (backTo _ (starEach (_ :: _) _)) []) _ _ _); refine PyProof.Rows.callWith_type1 ?_))
local macro_rules | `(tactic| walk_at "z ld") => `(tactic| ((with_reducible rename St _ _ _ _ _ _ _ _ => zS); (with_reducible show wpAny _ _ (eval (Expr.Name _ _) _) _ _ _); first | with_reducible refine ld0 zS (by with_reducible assumption) ?_ | with_reducible refine ld1 zS (by with_reducible assumption) ?_ | with_reducible refine ld2 zS (by with_reducible assumption) ?_ | with_reducible refine ld3 zS (by with_reducible assumption) ?_ | with_reducible refine ld4 zS (by with_reducible assumption) ?_ | with_reducible refine ld5 zS (by with_reducible assumption) ?_ | with_reducible refine ld6 zS (by with_reducible assumption) ?_ | with_reducible refine ld7 zS (by with_reducible assumption) ?_ | with_reducible refine ld8 zS (by with_reducible assumption) ?_ | with_reducible refine ld9 zS (by with_reducible assumption) ?_ | with_reducible refine ld10 zS (by with_reducible assumption) ?_ | with_reducible refine ld11 zS (by with_reducible assumption) ?_ | with_reducible refine ld12 zS (by with_reducible assumption) ?_ | with_reducible refine ld13 zS (by with_reducible assumption) ?_ | with_reducible refine ld14 zS (by with_reducible assumption) ?_ | with_reducible refine ld15 zS (by with_reducible assumption) ?_ | with_reducible refine ld16 zS (by with_reducible assumption) ?_ | with_reducible refine ld17 zS (by with_reducible assumption) ?_ | with_reducible refine ld18 zS (by with_reducible assumption) ?_ | with_reducible refine ld19 zS (by with_reducible assumption) ?_ | with_reducible refine ld20 zS (by with_reducible assumption) ?_ | with_reducible refine ld21 zS (by with_reducible assumption) ?_))
local macro_rules | `(tactic| walk_at "z st") => `(tactic| ((with_reducible rename St _ _ _ _ _ _ _ _ => zS); (with_reducible show wpAny _ _ (storeName _ _ _) _ _ _); (first | with_reducible refine st0 zS (by with_reducible assumption) ?_ | with_reducible refine st1 zS (by with_reducible assumption) ?_ | with_reducible refine st2 zS (by with_reducible assumption) ?_ | with_reducible refine st3 zS (by with_reducible assumption) ?_ | with_reducible refine st4 zS (by with_reducible assumption) ?_ | with_reducible refine st5 zS (by with_reducible assumption) ?_ | with_reducible refine st6 zS (by with_reducible assumption) ?_ | with_reducible refine st7 zS (by with_reducible assumption) ?_ | with_reducible refine st8 zS (by with_reducible assumption) ?_ | with_reducible refine st9 zS (by with_reducible assumption) ?_ | with_reducible refine st10 zS (by with_reducible assumption) ?_ | with_reducible refine st11 zS (by with_reducible assumption) ?_ | with_reducible refine st12 zS (by with_reducible assumption) ?_ | with_reducible refine st13 zS (by with_reducible assumption) ?_ | with_reducible refine st14 zS (by with_reducible assumption) ?_ | with_reducible refine st15 zS (by with_reducible assumption) ?_ | with_reducible refine st16 zS (by with_reducible assumption) ?_ | with_reducible refine st17 zS (by with_reducible assumption) ?_ | with_reducible refine st18 zS (by with_reducible assumption) ?_ | with_reducible refine st19 zS (by with_reducible assumption) ?_ | with_reducible refine st20 zS (by with_reducible assumption) ?_ | with_reducible refine st21 zS (by with_reducible assumption) ?_); clear zS; intro _ _ _))
local macro_rules | `(tactic| walk_at "z op") => `(tactic| ((with_reducible rename St _ _ _ _ _ _ _ _ => zS); (first | with_reducible refine kInt zS ?_ | with_reducible refine kStr zS ?_ | with_reducible refine addI zS ?_ | with_reducible refine subI zS ?_ | with_reducible refine range1 zS ?_ | with_reducible refine findS zS ?_); clear zS; intros))
local macro_rules | `(tactic| walk_at "z new") => `(tactic| ((with_reducible rename St _ _ _ _ _ _ _ _ => zS); (first | ((with_reducible show wpAny _ _ (newTuple _) _ _ _); refine newT zS ?_ ?_; exact Nat.le_of_ble_eq_true rfl) | ((with_reducible show wpAny _ _ (newList _) _ _ _); refine newL zS ?_ ?_; exact Nat.le_of_ble_eq_true rfl)); clear zS; intro _ _ _))
local macro_rules | `(tactic| walk_at "zz") => `(tactic| first | walk_at "z ctl" | walk_at "z ld" | walk_at "z st" | walk_at "z op")
local macro_rules | `(tactic| walk_at "z") => `(tactic| first | with_reducible refine exC ?_ | walk_at "zz")
local macro_rules | `(tactic| walk_at "zn") => `(tactic| first | walk_at "zz" | walk_at "z new")

def escF (b : Bool) (x : Str) : Str :=
  let y := Txt.replace (Txt.replace (Txt.replace x (Str.ofString "&") (Str.ofString "&amp;")) (Str.ofString "<") (Str.ofString "&lt;")) (Str.ofString ">") (Str.ofString "&gt;")
  if b = true then Txt.replace (Txt.replace y (Str.ofString "\"") (Str.ofString "&quot;")) (Str.ofString "'") (Str.ofString "&#x27;") else y

theorem flat6 (f : Nat → List Nat) (h : ∀ d, (f d).length ≤ 6) : ∀ l : List Nat, (l.flatMap f).length ≤ 6 * l.length
  | [] => by simp
  | a :: l => by
    have h1 := h a
    have h2 := flat6 f h l
    rw [List.flatMap_cons, List.length_append, List.length_cons]; omega
theorem rep_len (x z : Str) (c : Nat) (hz : z.length ≤ 6) : (Txt.replace x ⟨#[c]⟩ z).length ≤ 6 * x.length := by
  rw [len_tl, rep_one, len_tl x]
  refine flat6 _ (fun d => ?_) _
  split
  · rw [← len_tl]; exact hz
  · simp

section
variable {w : World} {A : Around} {E : Value → Shared → Prop} {h₀ : Heap} {mg mb : Str → Option Value} {g : Shared} {z z' : PHeap} {L : Addr} {vals : List (Option Value)} {ms : List (Addr × Obj)} {s : Shared} {env : Env}

theorem repStmt {Kr Gs : List Str} {vr : List (Option Value)} {x y r : Str} {t : Tok} {p1 p2 p3 p4 p5 p6 p7 : Pos} {k1 k2 : Nat} {Q : Flow → Shared → Prop} (O : EnvOk env L (Str.ofString "s" :: Kr) Gs)
    (S : St h₀ g z L (Str.ofString "s" :: Kr) (some (.str x t) :: vr) ms s) (ht : 0 < s.toks) (hyr : (y == r) = false) (hx : x.length ≤ 1048576) (hr : r.length ≤ 14)
    (h : ∀ t' s', 0 < s'.toks → St h₀ g z L (Str.ofString "s" :: Kr) (some (.str (Txt.replace x y r) t') :: vr) ms s' → Q .next s') (pl : Sem Bool)
    (he : eval (.Call (.Attribute (.Name (Str.ofString "s") p2) (Str.ofString "replace") p3) [.Constant (.str y) k1 p4, .Constant (.str r) k2 p5] [] p6) env = do
      let ov ← eval (.Name (Str.ofString "s") p2) env
      standAt p3.atName
      let __x ← holding [ov] (getMethod ov (Str.ofString "replace") pl)
      match __x with
        | (f, first) => callWith p6 f first (backTo p6 (starEach [.Constant (.str y) k1 p4, .Constant (.str r) k2 p5] env)) []) :
    wpAny (model P2 w) A (exec (.Assign [.Name (Str.ofString "s") p1] (.Call (.Attribute (.Name (Str.ofString "s") p2) (Str.ofString "replace") p3) [.Constant (.str y) k1 p4, .Constant (.str r) k2 p5] [] p6) p7) env) Q E s := by
  refine wpAny_Assign_Name ?_
  refine MethodCall_ ?_ he
  refine ld0 S O ?_
  refine GM.replace ?_
  refine cwM1 ?_
  refine spliced_more (Constant_str ?_)
  refine spliced_more (Constant_str ?_)
  refine spliced_none ?_
  refine SC.replaceW (Nat.ne_of_gt ht) (Nat.succ_ne_zero _) (Nat.ne_of_lt (Nat.lt_succ_self _)) hyr hx hr fun t' k => ?_
  refine st0 (S.tok k) O ?_
  intro s' h1 h2
  exact h t' s' h1 h2

set_option maxHeartbeats 4000000 in
theorem esc_body {x : Str} {t : Tok} {qv : Value} {b : Bool} {Q : Flow → Shared → Prop} 
   (O : EnvOk env L ["s", "quote"] [])
   (S : St h₀ g z L ["s", "quote"] [some (.str x t), some qv] [] s) (ht : 0 < s.toks) (hx : 1296 * x.length ≤ 1048576)
   (hb : ∀ (A : Around) (E : Value → Shared → Prop) (Q : Bool → Shared → Prop) (s : Shared) (vals : List (Option Value)), 0 < s.toks → St h₀ g z L ["s", "quote"] vals [] s → (∀ s', 0 < s'.toks → St h₀ g z L ["s", "quote"] vals [] s' → Q b s') → wpAny (model P2 w) A (truthy qv) Q E s)
   (hQ : ∀ t' s', Keeps g s' → Q (.ret (.str (escF b x) t')) s') :
   wpAny (model P2 w) A (execs (bodyOf P2 1) env) Q E s := by
  have l1 : (Txt.replace x (Str.ofString "&") (Str.ofString "&amp;")).length ≤ 6 * x.length := rep_len x _ 38 (by decide)
  have l2 : (Txt.replace (Txt.replace x (Str.ofString "&") (Str.ofString "&amp;")) (Str.ofString "<") (Str.ofString "&lt;")).length ≤ 6 * _ := rep_len _ _ 60 (by decide)
  have l3 : (Txt.replace (Txt.replace (Txt.replace x (Str.ofString "&") (Str.ofString "&amp;")) (Str.ofString "<") (Str.ofString "&lt;")) (Str.ofString ">") (Str.ofString "&gt;")).length ≤ 6 * _ := rep_len _ _ 62 (by decide)
  have l4 : (Txt.replace (Txt.replace (Txt.replace (Txt.replace x (Str.ofString "&") (Str.ofString "&amp;")) (Str.ofString "<") (Str.ofString "&lt;")) (Str.ofString ">") (Str.ofString "&gt;")) (Str.ofString "\"") (Str.ofString "&quot;")).length ≤ 6 * _ := rep_len _ _ 34 (by decide)
  refine exC (repStmt O S ht (by decide +kernel) (by omega) (by decide) ?_ _ rfl)
  clear S; intro t1 s ht S
  refine nqN (exC (repStmt O S ht (by decide +kernel) (by omega) (by decide) ?_ _ rfl))
  clear S; intro t1 s ht S
  refine nqN (exC (repStmt O S ht (by decide +kernel) (by omega) (by decide) ?_ _ rfl))
  clear S; intro t1 s ht S
  refine nqN ?_
  refine exC ?_
  walk_at "zz"
  walk_at "zz"
  refine ld1 S O ?_
  refine hb _ _ _ _ _ ht S ?_
  clear S; intro s ht S
  refine iteB ?_ ?_
  · intro e
    refine exC (repStmt O S ht (by decide +kernel) (by omega) (by decide) ?_ _ rfl)
    clear S; intro t1 s ht S
    refine nqN (exC (repStmt O S ht (by decide +kernel) (by omega) (by decide) ?_ _ rfl))
    clear S; intro t1 s ht S
    repeat walk_at "z"
    with_reducible rename St _ _ _ _ _ _ _ _ => S
    subst e
    exact hQ _ _ S.keeps
  · intro e
    repeat walk_at "z"
    with_reducible rename St _ _ _ _ _ _ _ _ => S
    subst e
    exact hQ _ _ S.keeps
theorem sc1 : ScopeOk (scopeOf P2 1) ["s", "quote"] [] := by
  refine ⟨?_, ?_, ?_, ?_, ?_, ?_, ?_, ?_, ?_⟩ <;> decide +kernel
theorem esc_spec2 (hF : Fn h₀ P2 1 (.ref 15) 22) (hD : h₀.get? 15 = some (tupOf #[.bool true])) (hlim : h₀.NoLimit) {x : Str} {t : Tok} {b : Bool} (hd : A.depth ≤ 900) (h0 : Le h₀.get? s.heap.get?) (hx : 1296 * x.length ≤ 1048576) :
    codeAny (model P2 w) A (.call (.ref 22) ⟨[.str x t, .bool b], []⟩) (fun r s' => ∃ v, r = .ok (.ret v) ∧ Keeps s s' ∧ ∃ t', v = .str (escF b x) t') s := by
  obtain ⟨oc, od, osl, name, qual, kV, doc, pm, an, cdv, ct, ho, hcd⟩ := hF
  refine enterFn (names := ["s", "quote"]) (rest := []) (vs := [.str x t, .bool b]) ho hcd hlim h0 (by omega) (BindsTo.of_defaults rfl (h0 _ _ hD) rfl rfl rfl) rfl sc1 rfl rfl ?_
  intro s' env E' O ht S
  refine esc_body (b := b) O S (ht (Nat.succ_pos _)) hx (fun A E Q s vals ht S h => wpAny_truthy_bool (h _ ht S)) ?_
  intro t' s' k
  exact ⟨k, t', rfl⟩
end
end Mine

namespace Mine
local macro_rules | `(tactic| walk_at "z ctl") => `(tactic| first | with_reducible refine iteT ?_ | with_reducible refine iteF ?_ | with_reducible refine nqN ?_ | with_reducible refine nqR ?_ | with_reducible refine nqB ?_ | with_reducible refine tqN ?_ | with_reducible refine tqB ?_ | with_reducible refine tqR ?_ | with_reducible refine rqR ?_ | with_reducible refine wpAny_execs_nil ?_ | with_reducible refine wpAny_If ?_ | with_reducible refine wpAny_Return_some ?_ | with_reducible refine wpAny_BinOp ?_ | with_reducible refine Subscript_ ?_ | with_reducible refine wpAny_Break ?_ | with_reducible refine Tuple_ ?_ | with_reducible refine List_ ?_ | with_reducible refine spliced_none ?_ | with_reducible refine callWith_method0 ?_ | with_reducible refine isTrue_and_nil ?_ | with_reducible refine isTrue_or_nil ?_ | with_reducible refine isTrue_and ?_ | with_reducible refine isTrue_or ?_ | with_reducible refine isTrue_not ?_ | with_reducible refine BoolOp_one ?_ | with_reducible refine BoolOp_and ?_ | with_reducible refine BoolOp_or ?_ | with_reducible refine wpAny_truthy_bool ?_ | with_reducible refine Constant_bool ?_ | with_reducible refine Constant_none ?_ | with_reducible refine evalPart_none_step ?_ | with_reducible refine evalPart_some_step ?_ | with_reducible refine wpAny_Slice ?_ | with_reducible refine GM.startswith ?_ | with_reducible refine GM.replace ?_ | with_reducible refine GM.find ?_ | with_reducible refine GM.split ?_ | with_reducible refine SC.startswith ?_ | with_reducible refine eq_str ?_ | with_reducible refine in_str ?_ | with_reducible refine ne_bool ?_ | with_reducible refine eq_int ?_ | with_reducible refine lt_int ?_ | with_reducible refine gt_int ?_ | ((with_reducible show wpAny _ _ (exec (Stmt.Assign [Expr.Name _ _] _ _) _) _ _ _); refine wpAny_Assign_Name ?_) | ((with_reducible show wpAny _ _ (exec (Stmt.Expr _ _) _) _ _ _); refine exprZ (by assumption) ?_) | ((with_reducible show wpAny _ _ (exec (Stmt.For _ _ _ _ _) _) _ _ _); refine wpAny_For ?_) | ((with_reducible show wpAny _ _ (eval (Expr.Compare _ [_] [_] _) _) _ _ _); refine wpAny_Compare1 ?_) | ((with_reducible show wpAny _ _ (PySem.isTrue (Expr.Compare _ [_] [_] _) _ _) _ _ _); refine wpAny_isTrue_Compare1 ?_) | ((with_reducible show wpAny _ _ (PySem.isTrue (Expr.Name _ _) _ _) _ _ _); refine isTrue_plain ?_) | ((with_reducible show wpAny _ _ (PySem.isTrue (Expr.Call _ _ _ _) _ _) _ _ _); refine isTrue_plain ?_) | ((with_reducible show wpAny _ _ (eval (Expr.Call (Expr.Attribute _ _ _) _ [] _) _) _ _ _); refine MethodCall_ ?_) | ((with_reducible show wpAny _ _ (eval (Expr.Call (Expr.Name _ _) _ [] _) _) _ _ _); refine Call_ ?_) | ((with_reducible show wpAny _ _ (spliced (backTo _ (starEach (_ :: _) _))) _ _ _); refine spliced_more ?_) | ((with_reducible show wpAny _ _ (callWith _ (Value.builtin _) [] (backTo _ (starEach (_ :: _) _)) []) _ _ _); refine PyProof.Rows.callWith_builtin1 ?_) | ((with_reducible show wpAny _ _ (callWith _ (Value.builtin _) [_] (backTo _ (starEach (_ :: _) _)) []) _ _ _); refine cwM1 ?_) | ((with_reducible show wpAny _ _ (callWith _ (Value.type _) [] (backTo _ (starEach (_ :: _) _)) []) _ _ _); refine PyProof.Rows.callWith_type1 ?_))
local macro_rules | `(tactic| walk_at "z ld") => `(tactic| ((with_reducible rename St _ _ _ _ _ _ _ _ => zS); (with_reducible show wpAny _ _ (eval (Expr.Name _ _) _) _ _ _); first | with_reducible refine ld0 zS (by with_reducible assumption) ?_ | with_reducible refine ld1 zS (by with_reducible assumption) ?_ | with_reducible refine ld2 zS (by with_reducible assumption) ?_ | with_reducible refine ld3 zS (by with_reducible assumption) ?_ | with_reducible refine ld4 zS (by with_reducible assumption) ?_ | with_reducible refine ld5 zS (by with_reducible assumption) ?_ | with_reducible refine ld6 zS (by with_reducible assumption) ?_ | with_reducible refine ld7 zS (by with_reducible assumption) ?_ | with_reducible refine ld8 zS (by with_reducible assumption) ?_ | with_reducible refine ld9 zS (by with_reducible assumption) ?_ | with_reducible refine ld10 zS (by with_reducible assumption) ?_ | with_reducible refine ld11 zS (by with_reducible assumption) ?_ | with_reducible refine ld12 zS (by with_reducible assumption) ?_ | with_reducible refine ld13 zS (by with_reducible assumption) ?_ | with_reducible refine ld14 zS (by with_reducible assumption) ?_ | with_reducible refine ld15 zS (by with_reducible assumption) ?_ | with_reducible refine ld16 zS (by with_reducible assumption) ?_ | with_reducible refine ld17 zS (by with_reducible assumption) ?_ | with_reducible refine ld18 zS (by with_reducible assumption) ?_ | with_reducible refine ld19 zS (by with_reducible assumption) ?_ | with_reducible refine ld20 zS (by with_reducible assumption) ?_ | with_reducible refine ld21 zS (by with_reducible assumption) ?_))
local macro_rules | `(tactic| walk_at "z st") => `(tactic| ((with_reducible rename St _ _ _ _ _ _ _ _ => zS); (with_reducible show wpAny _ _ (storeName _ _ _) _ _ _); (first | with_reducible refine st0 zS (by with_reducible assumption) ?_ | with_reducible refine st1 zS (by with_reducible assumption) ?_ | with_reducible refine st2 zS (by with_reducible assumption) ?_ | with_reducible refine st3 zS (by with_reducible assumption) ?_ | with_reducible refine st4 zS (by with_reducible assumption) ?_ | with_reducible refine st5 zS (by with_reducible assumption) ?_ | with_reducible refine st6 zS (by with_reducible assumption) ?_ | with_reducible refine st7 zS (by with_reducible assumption) ?_ | with_reducible refine st8 zS (by with_reducible assumption) ?_ | with_reducible refine st9 zS (by with_reducible assumption) ?_ | with_reducible refine st10 zS (by with_reducible assumption) ?_ | with_reducible refine st11 zS (by with_reducible assumption) ?_ | with_reducible refine st12 zS (by with_reducible assumption) ?_ | with_reducible refine st13 zS (by with_reducible assumption) ?_ | with_reducible refine st14 zS (by with_reducible assumption) ?_ | with_reducible refine st15 zS (by with_reducible assumption) ?_ | with_reducible refine st16 zS (by with_reducible assumption) ?_ | with_reducible refine st17 zS (by with_reducible assumption) ?_ | with_reducible refine st18 zS (by with_reducible assumption) ?_ | with_reducible refine st19 zS (by with_reducible assumption) ?_ | with_reducible refine st20 zS (by with_reducible assumption) ?_ | with_reducible refine st21 zS (by with_reducible assumption) ?_); clear zS; intro _ _ _))
local macro_rules | `(tactic| walk_at "z op") => `(tactic| ((with_reducible rename St _ _ _ _ _ _ _ _ => zS); (first | with_reducible refine kInt zS ?_ | with_reducible refine kStr zS ?_ | with_reducible refine addI zS ?_ | with_reducible refine subI zS ?_ | with_reducible refine range1 zS ?_ | with_reducible refine findS zS ?_); clear zS; intros))
local macro_rules | `(tactic| walk_at "z new") => `(tactic| ((with_reducible rename St _ _ _ _ _ _ _ _ => zS); (first | ((with_reducible show wpAny _ _ (newTuple _) _ _ _); refine newT zS ?_ ?_; exact Nat.le_of_ble_eq_true rfl) | ((with_reducible show wpAny _ _ (newList _) _ _ _); refine newL zS ?_ ?_; exact Nat.le_of_ble_eq_true rfl)); clear zS; intro _ _ _))
local macro_rules | `(tactic| walk_at "zz") => `(tactic| first | walk_at "z ctl" | walk_at "z ld" | walk_at "z st" | walk_at "z op")
local macro_rules | `(tactic| walk_at "z") => `(tactic| first | with_reducible refine exC ?_ | walk_at "zz")
local macro_rules | `(tactic| walk_at "zn") => `(tactic| first | walk_at "zz" | walk_at "z new")

def isIn' (y x : Str) : Bool := !(Builtin.Str.occurrences x y 0 x.length 1).isEmpty
def wtab : List (Str × Str) := [(Str.ofString "&", Str.ofString "&amp;"), (Str.ofString "<", Str.ofString "&lt;"), (Str.ofString ">", Str.ofString "&gt;"), (Str.ofString "\"", Str.ofString "&quot;"), (Str.ofString "'", Str.ofString "&#x27;")]
def wpred (b : Bool) (x : Str) (c : Str × Str) : Bool := c.1 == x && (b || isIn' c.1 (Str.ofString "&<>"))
def wroteF (b : Bool) (x : Str) : Str := match wtab.find? (wpred b x) with
  | some c => c.2
  | none => x

section
variable {w : World} {A : Around} {E : Value → Shared → Prop} {h₀ : Heap} {mg mb : Str → Option Value} {g : Shared} {z z' : PHeap} {L : Addr} {vals : List (Option Value)} {ms : List (Addr × Obj)} {s : Shared} {env : Env}
set_option maxHeartbeats 4000000 in
theorem wrote_body {x : Str} {t : Tok} {b : Bool} {Q : Flow → Shared → Prop} (hh : A.handled = none)
   (O : EnvOk env L ["sign", "quoted", "plain", "name"] [])
   (S : St h₀ g z L ["sign", "quoted", "plain", "name"] [some (.str x t), some (.bool b), none, none] [] s)
   (hQ : ∀ t' s', Keeps g s' → Q (.ret (.str (wroteF b x) t')) s') :
   wpAny (model P2 w) A (execs (bodyOf P2 3) env) Q E s := by
  refine exJR ?J ?h1 ?h2
  case J => exact fun s' => ∃ z' x1 x2, St h₀ g z' L ["sign", "quoted", "plain", "name"] [some (.str x t), some (.bool b), x1, x2] [] s' ∧ wtab.find? (wpred b x) = none
  · intro Q' hQ' hR'
    repeat walk_at "zn"
    with_reducible rename St _ _ _ _ _ _ _ _ => S
    obtain ⟨z1, l1, q1, _, S⟩ := S.freeze
    obtain ⟨z2, l2, q2, _, S⟩ := S.freeze
    obtain ⟨z3, l3, q3, _, S⟩ := S.freeze
    obtain ⟨z4, l4, q4, _, S⟩ := S.freeze
    obtain ⟨z5, l5, q5, _, S⟩ := S.freeze
    obtain ⟨z6, l6, q6, _, S⟩ := S.freeze
    have hz := l6 _ _ (l5 _ _ (l4 _ _ (l3 _ _ (l2 _ _ q1))))
    refine forT S hh hz (fun i z' vals' ms' => ∃ x1 x2, vals' = [some (.str x t), some (.bool b), x1, x2] ∧ ms' = [] ∧ (wtab.take i).find? (wpred b x) = none) ⟨_, _, rfl, rfl, rfl⟩ ?_ ?_
    · intro E' i v z₁ vals' I o ms' s hv le hJ S
      obtain ⟨x1, x2, rfl, rfl, hf⟩ := hJ
      have hp : ∃ c, wtab[i]? = some c ∧ PairAt z6 v c := by
        match i, hv with
        | 0, hv => simp at hv; subst hv; exact ⟨_, rfl, _, _, _, rfl, q6⟩
        | 1, hv => simp at hv; subst hv; exact ⟨_, rfl, _, _, _, rfl, l6 _ _ q5⟩
        | 2, hv => simp at hv; subst hv; exact ⟨_, rfl, _, _, _, rfl, l6 _ _ (l5 _ _ q4)⟩
        | 3, hv => simp at hv; subst hv; exact ⟨_, rfl, _, _, _, rfl, l6 _ _ (l5 _ _ (l4 _ _ q3))⟩
        | 4, hv => simp at hv; subst hv; exact ⟨_, rfl, _, _, _, rfl, l6 _ _ (l5 _ _ (l4 _ _ (l3 _ _ q2)))⟩
        | n + 5, hv => simp at hv
      obtain ⟨c, hci, t', tk, tk', rfl, hzt⟩ := hp
      have yes (s : Shared) (tok : Tok) (hy : wpred b x c = true) (k : Keeps g s) : Q (.ret (.str c.2 tok)) s := by
        have : wroteF b x = c.2 := by
          unfold wroteF
          have e : wtab.find? (wpred b x) = some c := by
            rw [← List.take_append_drop i wtab, List.find?_append, hf]
            have hd : wtab.drop i = c :: wtab.drop (i + 1) := by
              obtain ⟨hi, e⟩ := List.getElem?_eq_some_iff.mp hci
              rw [← e, List.drop_eq_getElem_cons hi]
            rw [hd, List.find?_cons, hy]; rfl
          rw [e]
        rw [← this]; exact hQ tok s k
      have no (hy : wpred b x c = false) : (wtab.take (i + 1)).find? (wpred b x) = none := by
        rw [List.take_add_one, hci, List.find?_append, hf]
        simp [List.find?_cons, hy]
      refine asg2 S hh (isT S (le _ _ hzt)) ?_
      clear S; intro s S
      repeat walk_at "z"
      refine iteB ?_ ?_
      · intro heq
        repeat walk_at "z"
        refine iteB ?_ ?_
        · intro hb
          repeat walk_at "z"
          with_reducible rename St _ _ _ _ _ _ _ _ => S
          exact hR' _ _ (yes _ _ (by unfold wpred; rw [heq, hb]; rfl) S.keeps)
        · intro hb
          repeat walk_at "z"
          refine iteB ?_ ?_
          · intro hin
            repeat walk_at "z"
            with_reducible rename St _ _ _ _ _ _ _ _ => S
            exact hR' _ _ (yes _ _ (by unfold wpred; rw [heq, show isIn' c.1 (Str.ofString "&<>") = true from hin, Bool.or_true]; rfl) S.keeps)
          · intro hin
            repeat walk_at "z"
            with_reducible rename St _ _ _ _ _ _ _ _ => S
            exact ⟨_, _, _, Le.refl _, ⟨_, _, rfl, rfl, no (by unfold wpred; rw [heq, hb, show isIn' c.1 (Str.ofString "&<>") = false from hin]; rfl)⟩, S⟩
      · intro heq
        repeat walk_at "z"
        with_reducible rename St _ _ _ _ _ _ _ _ => S
        exact ⟨_, _, _, Le.refl _, ⟨_, _, rfl, rfl, no (by unfold wpred; rw [heq]; rfl)⟩, S⟩
    · intro z₁ vals' ms' s le hJ S
      obtain ⟨x1, x2, rfl, rfl, hf⟩ := hJ
      exact hQ' _ ⟨_, _, _, S, hf⟩
  · rintro s ⟨z', x1, x2, S, hf⟩
    repeat walk_at "z"
    with_reducible rename St _ _ _ _ _ _ _ _ => S
    have e : wroteF b x = x := by unfold wroteF; rw [hf]
    have e2 := hQ t _ S.keeps
    rw [e] at e2
    exact e2
theorem sc3 : ScopeOk (scopeOf P2 3) ["sign", "quoted", "plain", "name"] [] := by
  refine ⟨?_, ?_, ?_, ?_, ?_, ?_, ?_, ?_, ?_⟩ <;> decide +kernel
theorem wrote_spec (G : G2 h₀ mg mb) {x : Str} {t : Tok} {b : Bool} (hh : A.handled = none) (hd : A.depth ≤ 900) (h0 : Le h₀.get? s.heap.get?) :
    codeAny (model P2 w) A (.call (.ref 29) ⟨[.str x t, .bool b], []⟩) (fun r s' => ∃ v, r = .ok (.ret v) ∧ Keeps s s' ∧ ∃ t', v = .str (wroteF b x) t') s := by
  obtain ⟨oc, od, osl, name, qual, kV, doc, pm, an, cdv, ct, ho, hcd⟩ := G.f29
  refine enterFn (names := ["sign", "quoted"]) (rest := ["plain", "name"]) (vs := [.str x t, .bool b]) ho hcd G.lim h0 (by omega) (BindsTo.of_eq rfl) rfl sc3 rfl rfl ?_
  intro s' env E' O ht S
  with_reducible refine wrote_body (x := x) (t := t) (b := b) (L := s.heap.objs.size) (h₀ := h₀) (g := s) (z := s.heap.get?) ?h1 ?h2 ?h3 ?h4
  case h1 => exact hh
  case h2 => exact O
  case h3 => exact S
  case h4 => exact fun t' s' k => ⟨k, t', rfl⟩
end
end Mine

namespace Mine
section
variable {M : Model} {prog : Program} {w : World} {A : Around} {E : Value → Shared → Prop} {h₀ : Heap} {g : Shared} {z z' : PHeap} {L : Addr} {K Gs : List Str} {vals : List (Option Value)} {ms : List (Addr × Obj)} {s : Shared} {env : Env}

theorem itemZ {value slice : Expr} {l : Addr} {its : Array Value} {k : Int} {u : Tok} {x : Value} {Q : Value → Shared → Prop} (hl : s.heap.IsList l its) (h0 : 0 ≤ k) (hk : k < 2 ^ 63) (hx : its[k.toNat]? = some x) (h : Q x s)
    (hs : subscripted slice false (.ref l) (.int k u) = operate [.ref l, .int k u] (getItem (.ref l) (.int k u)) := by with_unfolding_all rfl) :
    wpAny (model prog w) A (subscriptTail value slice (.ref l) (.int k u)) Q E s :=
  tail_any hl.typeIs slot_list_getitem.lookup (wpAny_getItem_list hl h0 hk hx h) hs
theorem itemT {value slice : Expr} {l : Addr} {its : Array Value} {k : Int} {u : Tok} {x : Value} {Q : Value → Shared → Prop} (hl : s.heap.IsTuple l its) (h0 : 0 ≤ k) (hk : k < 2 ^ 63) (hx : its[k.toNat]? = some x) (h : Q x s)
    (hs : subscripted slice false (.ref l) (.int k u) = operate [.ref l, .int k u] (getItem (.ref l) (.int k u)) := by with_unfolding_all rfl) :
    wpAny (model prog w) A (subscriptTail value slice (.ref l) (.int k u)) Q E s := by
  have hlt : k.toNat < its.size := (Array.getElem?_eq_some_iff.mp hx).1
  have hh : IsTup s.heap l its := hl
  exact tail_any hh.typeIs slot_tuple_getitem.lookup (getItem_tuple hh (by omega) hk (StrLaws.seqIndex_nonneg h0 (by omega)) hx h) hs

theorem mapSeq_same (f : Array Value → Array Value) (its : Array Value) (n : Nat) (h : (f its).size = its.size) : Obj.mapSeq f (listOf its n) = listOf (f its) n := by
  show Obj.mk _ _ (Data.seq (f its) (if (f its).size == its.size then n else n + 1)) _ = _
  rw [h]; simp
theorem mapSeq_less (f : Array Value → Array Value) (its : Array Value) (n : Nat) (h : (f its).size ≠ its.size) : Obj.mapSeq f (listOf its n) = listOf (f its) (n + 1) := by
  show Obj.mk _ _ (Data.seq (f its) (if (f its).size == its.size then n else n + 1)) _ = _
  rw [if_neg (by simpa using h)]

theorem setItemX {l : Addr} {its : Array Value} {n : Nat} {k : Int} {t : Tok} {v : Value} {Q : Unit → Shared → Prop} (ho : s.heap.get? l = some (listOf its n))
    (h0 : 0 ≤ k) (hfit : k < 2 ^ 63) (hn : k < its.size)
    (hQ : ∀ h', h'.get? l = some (listOf (its.setIfInBounds k.toNat v) n) → Heap.SameBut l s.heap h' → Q () { s with heap := h' }) :
    wpAny (model prog w) A (setItem (.ref l) (.int k t) v) Q E s := by
  have hl : s.heap.IsList l its := ⟨_, ho, rfl, _, rfl⟩
  unfold setItem
  try with_reducible refine wpAny_holding ?_
  first | refine wpAny_bind (wpAny_pure ?_) | skip
  refine wpAny_bind (wpAny_sequenceKey hl.typeIs (by decide) ?_)
  refine wpAny_bind (wpAny_callSpecial?_slot (name := Str.ofString "__setitem__") hl.typeIs slot_list_setitem
    (wpAny_call_entry slot_list_setitem hl.typeIs entry_list_setitem ?_ (args_list_setitem _ _ _)))
  show wpAny _ _ (Builtin.List.listSubscript? (.int k t) >>= _) _ _ s
  refine wpAny_bind (wpAny_listSubscript_int (fitsIndex_of h0 hfit) ?_)
  clear hfit
  obtain ⟨j, rfl⟩ := Int.eq_ofNat_of_zero_le h0
  have hj : j < its.size := by omega
  show wpAny _ _ ((seqItemAt l j >>= fun r => pure (r.map (j, ·))) >>= _) _ _ s
  refine wpAny_bind (wpAny_bind (wpAny_seqItemAt ho rfl (wpAny_pure ?_)))
  rw [show its[j]? = some its[j] from Array.getElem?_eq_getElem hj]
  show wpAny _ _ (setSeqItemAt l j v >>= _) _ _ s
  have hfin : (s.heap.update l (Obj.mapSeq (·.setIfInBounds j v))).get? l = some (listOf (its.setIfInBounds j v) n) := by
    have e := mapSeq_same (·.setIfInBounds j v) its n (by simp)
    rw [Heap.get?_update_self _ ho (by rw [e]; rfl), e]
  refine wpAny_bind (wpAny_setSeqItemAt ho rfl ?_)
  first
    | exact wpAny_bind (wpAny_pure (wpAny_pure ⟨.none, rfl, wpAny_pure (hQ _ hfin (Heap.SameBut.update ..))⟩))
    | exact wpAny_pure ⟨.none, rfl, wpAny_pure (hQ _ hfin (Heap.SameBut.update ..))⟩

theorem setAt {pre post : List (Addr × Obj)} {D : Addr} {its : Array Value} {n : Nat} {k : Int} {t : Tok} {v : Value} {Q : Unit → Shared → Prop} (S : St h₀ g z L K vals (pre ++ (D, listOf its n) :: post) s) (h0 : 0 ≤ k) (hfit : k < 2 ^ 63) (hn : k < its.size)
    (h : ∀ s', St h₀ g z L K vals (pre ++ (D, listOf (its.setIfInBounds k.toNat v) n) :: post) s' → Q () s') : wpAny (model prog w) A (setItem (.ref D) (.int k t) v) Q E s :=
  setItemX (S.own (D, listOf its n) (by simp)).1 h0 hfit hn fun _ ho hs => h _ (S.upd hs ho)

theorem popAt {pre post : List (Addr × Obj)} {D : Addr} {its : Array Value} {n : Nat} {k : Int} {t : Tok} {y : Value} {Q : Value → Shared → Prop} (S : St h₀ g z L K vals (pre ++ (D, listOf its n) :: post) s) (h0 : 0 ≤ k) (hn : k < its.size) (hsz : its.size ≤ sizeLine)
    (hy : its[k.toNat]? = some y) (h : ∀ s', St h₀ g z L K vals (pre ++ (D, listOf (its.eraseIdxIfInBounds k.toNat) (n + 1)) :: post) s' → Q y s') : wpAny (model prog w) A (call (.builtin "list.pop") [.ref D, .int k t]) Q E s := by
  have ho := (S.own (D, listOf its n) (by simp)).1
  have hlt : k.toNat < its.size := by omega
  have hf : Builtin.List.listFitsIndex k = true := by
    unfold Builtin.List.listFitsIndex
    have : its.size ≤ 16777216 := by rw [← sizeLine_eq]; exact hsz
    simp only [Bool.and_eq_true, decide_eq_true_eq]; omega
  refine call_meets PySem.F.slot_list_pop ⟨_, ho, rfl⟩ PySem.F.entry_list_pop (PySem.F.args_list_pop_2 _ _) (PySem.MeetsSeq.list_pop_at D its n k t k.toNat y hf (StrLaws.seqIndex_nonneg h0 hn) hy hsz) ⟨ho, ?_⟩
  have e := mapSeq_less (fun xs => xs.eraseIdxIfInBounds k.toNat) its n (by
    have : its.eraseIdxIfInBounds k.toNat = its.eraseIdx k.toNat hlt := by simp [Array.eraseIdxIfInBounds, hlt]
    rw [this, Array.size_eraseIdx]; omega)
  refine h _ (S.upd (Heap.SameBut.update ..) ?_)
  rw [Heap.get?_update_self _ ho (by rw [e]; rfl), e]

theorem addL {l b : Addr} {vs ws : List Value} {n n2 : Nat} {Q : Value → Shared → Prop} (S : St h₀ g z L K vals ms s) (hl : s.heap.get? l = some (listOf vs.toArray n)) (hb : s.heap.get? b = some (listOf ws.toArray n2)) (hsz : vs.length + ws.length ≤ sizeLine)
    (h : ∀ D s', St h₀ g z L K vals ((D, listOf (vs ++ ws).toArray 0) :: ms) s' → Q (.ref D) s') : wpAny (model prog w) A (binaryOp .Add (.ref l) (.ref b)) Q E s := by
  have e : vs.toArray ++ ws.toArray = (vs ++ ws).toArray := by simp
  refine concat_meets ⟨_, hl, rfl⟩ ⟨_, hb, rfl⟩ noFill_list_add seq_list_add PySem.F.slot_list_add PySem.F.entry_list_add (PySem.F.args_list_add_2 _ _) (list_addW l b vs.toArray ws.toArray n n2 none none #[] #[] (by simpa using hsz)) ⟨hl, hb, ?_⟩
  rw [e]
  exact h _ _ (S.alloc rfl)

theorem lenL {l : Addr} {its : Array Value} {Q : Value → Shared → Prop} (S : St h₀ g z L K vals ms s) (hl : s.heap.IsList l its) (hsz : its.size ≤ sizeLine) (h : ∀ t s', St h₀ g z L K vals ms s' → Q (.int its.size t) s') :
    wpAny (model prog w) A (call (.builtin "len") [.ref l]) Q E s :=
  len_list hl (by have : its.size ≤ 16777216 := by rw [← sizeLine_eq]; exact hsz
                  omega) (h _ _ (S.tok _))
theorem getPop {D : Addr} {its : Array Value} {n : Nat} {pl : Sem Bool} {Q : Value × List Value → Shared → Prop} (S : St h₀ g z L K vals ms s) (hm : (D, listOf its n) ∈ ms) (h : Q (.builtin "list.pop", [.ref D]) s) :
    wpAny M A (getMethod (.ref D) "pop" pl) Q E s :=
  getMethod_builtin (T := "list") ⟨_, (S.own _ hm).1, rfl⟩ PySem.F.plainAttrs_list PySem.F.slot_list_pop PySem.F.type_list_pop (fun a e => by cases e; exact ⟨_, (S.own _ hm).1, rfl⟩) h
end
end Mine

namespace Mine
section
variable {M : Model} {A : Around} {E : Value → Shared → Prop} {h₀ : Heap} {mg mb : Str → Option Value} {g : Shared} {z z' : PHeap} {L : Addr} {K Gs : List Str} {vals : List (Option Value)} {ms : List (Addr × Obj)} {s : Shared} {env : Env}
theorem ldLen {pos : Pos} {Q : Value → Shared → Prop} (S : St h₀ g z L K vals ms s) (O : EnvOk env L K Gs) (G : G2 h₀ mg mb) (hx : Str.ofString "len" ∈ Gs) (h : Q (.builtin "len") s) :
    wpAny M A (eval (.Name (Str.ofString "len") pos) env) Q E s := ldB S O hx G.gn G.glen G.bn G.blen h
theorem ldRange {pos : Pos} {Q : Value → Shared → Prop} (S : St h₀ g z L K vals ms s) (O : EnvOk env L K Gs) (G : G2 h₀ mg mb) (hx : Str.ofString "range" ∈ Gs) (h : Q (.type "range") s) :
    wpAny M A (eval (.Name (Str.ofString "range") pos) env) Q E s := ldB S O hx G.gn G.grange G.bn G.brange h
end
local macro_rules | `(tactic| walk_at "z ctl") => `(tactic| first | with_reducible refine iteT ?_ | with_reducible refine iteF ?_ | with_reducible refine nqN ?_ | with_reducible refine nqR ?_ | with_reducible refine nqB ?_ | with_reducible refine tqN ?_ | with_reducible refine tqB ?_ | with_reducible refine tqR ?_ | with_reducible refine rqR ?_ | with_reducible refine wpAny_execs_nil ?_ | with_reducible refine wpAny_If ?_ | with_reducible refine wpAny_Return_some ?_ | with_reducible refine wpAny_BinOp ?_ | with_reducible refine Subscript_ ?_ | with_reducible refine wpAny_Break ?_ | with_reducible refine Tuple_ ?_ | with_reducible refine List_ ?_ | with_reducible refine spliced_none ?_ | with_reducible refine callWith_method0 ?_ | with_reducible refine isTrue_and_nil ?_ | with_reducible refine isTrue_or_nil ?_ | with_reducible refine isTrue_and ?_ | with_reducible refine isTrue_or ?_ | with_reducible refine isTrue_not ?_ | with_reducible refine BoolOp_one ?_ | with_reducible refine BoolOp_and ?_ | with_reducible refine BoolOp_or ?_ | with_reducible refine wpAny_truthy_bool ?_ | with_reducible refine Constant_bool ?_ | with_reducible refine Constant_none ?_ | with_reducible refine evalPart_none_step ?_ | with_reducible refine evalPart_some_step ?_ | with_reducible refine wpAny_Slice ?_ | with_reducible refine GM.startswith ?_ | with_reducible refine GM.replace ?_ | with_reducible refine GM.find ?_ | with_reducible refine GM.split ?_ | with_reducible refine SC.startswith ?_ | with_reducible refine eq_str ?_ | with_reducible refine in_str ?_ | with_reducible refine ne_bool ?_ | with_reducible refine eq_int ?_ | with_reducible refine lt_int ?_ | with_reducible refine gt_int ?_ | ((with_reducible show wpAny _ _ (exec (Stmt.Assign [Expr.Name _ _] _ _) _) _ _ _); refine wpAny_Assign_Name ?_) | ((with_reducible show wpAny _ _ (exec (Stmt.Assign [Expr.Subscript _ _ _] _ _) _) _ _ _); refine wpAny_Assign_Subscript ?_) | ((with_reducible show wpAny _ _ (exec (Stmt.Expr _ _) _) _ _ _); refine exprZ (by assumption) ?_) | ((with_reducible show wpAny _ _ (exec (Stmt.For _ _ _ _ _) _) _ _ _); refine wpAny_For ?_) | ((with_reducible show wpAny _ _ (eval (Expr.Compare _ [_] [_] _) _) _ _ _); refine wpAny_Compare1 ?_) | ((with_reducible show wpAny _ _ (PySem.isTrue (Expr.Compare _ [_] [_] _) _ _) _ _ _); refine wpAny_isTrue_Compare1 ?_) | ((with_reducible show wpAny _ _ (PySem.isTrue (Expr.Name _ _) _ _) _ _ _); refine isTrue_plain ?_) | ((with_reducible show wpAny _ _ (PySem.isTrue (Expr.Call _ _ _ _) _ _) _ _ _); refine isTrue_plain ?_) | ((with_reducible show wpAny _ _ (eval (Expr.Call (Expr.Attribute _ _ _) _ [] _) _) _ _ _); refine MethodCall_ ?_) | ((with_reducible show wpAny _ _ (eval (Expr.Call (Expr.Name _ _) _ [] _) _) _ _ _); refine Call_ ?_) | ((with_reducible show wpAny _ _ (spliced (backTo _ (starEach (_ :: _) _))) _ _ _); refine spliced_more ?_) | ((with_reducible show wpAny _ _ (callWith _ (Value.builtin _) [] (backTo _ (starEach (_ :: _) _)) []) _ _ _); refine PyProof.Rows.callWith_builtin1 ?_) | ((with_reducible show wpAny _ _ (callWith _ (Value.builtin _) [_] (backTo _ (starEach (_ :: _) _)) []) _ _ _); refine cwM1 ?_) | ((with_reducible show wpAny _ _ (callWith _ (Value.type _) [] (backTo _ (starEach (_ :: _) _)) []) _ _ _); refine PyProof.Rows.callWith_type1 ?_))
local macro_rules | `(tactic| walk_at "z ld") => `(tactic| ((with_reducible rename St _ _ _ _ _ _ _ _ => zS); (with_reducible show wpAny _ _ (eval (Expr.Name _ _) _) _ _ _); first | with_reducible refine ld0 zS (by with_reducible assumption) ?_ | with_reducible refine ld1 zS (by with_reducible assumption) ?_ | with_reducible refine ld2 zS (by with_reducible assumption) ?_ | with_reducible refine ld3 zS (by with_reducible assumption) ?_ | with_reducible refine ld4 zS (by with_reducible assumption) ?_ | with_reducible refine ld5 zS (by with_reducible assumption) ?_ | with_reducible refine ld6 zS (by with_reducible assumption) ?_ | with_reducible refine ld7 zS (by with_reducible assumption) ?_ | with_reducible refine ld8 zS (by with_reducible assumption) ?_ | with_reducible refine ld9 zS (by with_reducible assumption) ?_ | with_reducible refine ld10 zS (by with_reducible assumption) ?_ | with_reducible refine ld11 zS (by with_reducible assumption) ?_ | with_reducible refine ld12 zS (by with_reducible assumption) ?_ | with_reducible refine ld13 zS (by with_reducible assumption) ?_ | with_reducible refine ld14 zS (by with_reducible assumption) ?_ | with_reducible refine ld15 zS (by with_reducible assumption) ?_ | with_reducible refine ld16 zS (by with_reducible assumption) ?_ | with_reducible refine ld17 zS (by with_reducible assumption) ?_ | with_reducible refine ld18 zS (by with_reducible assumption) ?_ | with_reducible refine ld19 zS (by with_reducible assumption) ?_ | with_reducible refine ld20 zS (by with_reducible assumption) ?_ | with_reducible refine ld21 zS (by with_reducible assumption) ?_))
local macro_rules | `(tactic| walk_at "z st") => `(tactic| ((with_reducible rename St _ _ _ _ _ _ _ _ => zS); (with_reducible show wpAny _ _ (storeName _ _ _) _ _ _); (first | with_reducible refine st0 zS (by with_reducible assumption) ?_ | with_reducible refine st1 zS (by with_reducible assumption) ?_ | with_reducible refine st2 zS (by with_reducible assumption) ?_ | with_reducible refine st3 zS (by with_reducible assumption) ?_ | with_reducible refine st4 zS (by with_reducible assumption) ?_ | with_reducible refine st5 zS (by with_reducible assumption) ?_ | with_reducible refine st6 zS (by with_reducible assumption) ?_ | with_reducible refine st7 zS (by with_reducible assumption) ?_ | with_reducible refine st8 zS (by with_reducible assumption) ?_ | with_reducible refine st9 zS (by with_reducible assumption) ?_ | with_reducible refine st10 zS (by with_reducible assumption) ?_ | with_reducible refine st11 zS (by with_reducible assumption) ?_ | with_reducible refine st12 zS (by with_reducible assumption) ?_ | with_reducible refine st13 zS (by with_reducible assumption) ?_ | with_reducible refine st14 zS (by with_reducible assumption) ?_ | with_reducible refine st15 zS (by with_reducible assumption) ?_ | with_reducible refine st16 zS (by with_reducible assumption) ?_ | with_reducible refine st17 zS (by with_reducible assumption) ?_ | with_reducible refine st18 zS (by with_reducible assumption) ?_ | with_reducible refine st19 zS (by with_reducible assumption) ?_ | with_reducible refine st20 zS (by with_reducible assumption) ?_ | with_reducible refine st21 zS (by with_reducible assumption) ?_); clear zS; intro _ _ _))
local macro_rules | `(tactic| walk_at "z op") => `(tactic| ((with_reducible rename St _ _ _ _ _ _ _ _ => zS); (first | with_reducible refine kInt zS ?_ | with_reducible refine kStr zS ?_ | with_reducible refine addI zS ?_ | with_reducible refine modI zS (by decide) ?_ | with_reducible refine subI zS ?_ | with_reducible refine range1 zS ?_ | with_reducible refine findS zS ?_); clear zS; intros))
local macro_rules | `(tactic| walk_at "z new") => `(tactic| ((with_reducible rename St _ _ _ _ _ _ _ _ => zS); (first | ((with_reducible show wpAny _ _ (newTuple _) _ _ _); refine newT zS ?_ ?_; exact Nat.le_of_ble_eq_true rfl) | ((with_reducible show wpAny _ _ (newList _) _ _ _); refine newL zS ?_ ?_; exact Nat.le_of_ble_eq_true rfl)); clear zS; intro _ _ _))
local macro_rules | `(tactic| walk_at "zz") => `(tactic| first | walk_at "z ctl" | walk_at "z ld" | walk_at "z st" | walk_at "z op" | walk_at "z nm")
local macro_rules | `(tactic| walk_at "z") => `(tactic| first | with_reducible refine exC ?_ | walk_at "zz")
local macro_rules | `(tactic| walk_at "zn") => `(tactic| first | walk_at "zz" | walk_at "z new")

local macro_rules | `(tactic| walk_at "z nm") => `(tactic| ((with_reducible rename St _ _ _ _ _ _ _ _ => zS); (first | with_reducible refine ldLen zS (by with_reducible assumption) (by with_reducible assumption) (by decide) ?_ | with_reducible refine ldRange zS (by with_reducible assumption) (by with_reducible assumption) (by decide) ?_)))

theorem ints_get {vs : List Value} {ns : List Int} (h : IntsAre vs ns) : ∀ {i : Nat}, i < ns.length → ∃ d tk, vs[i]? = some (.int d tk) ∧ ns[i]? = some d := by
  induction h with
  | nil => intro i hi; simp at hi
  | cons k t _ ih =>
    intro i hi
    cases i with
    | zero => exact ⟨k, t, rfl, rfl⟩
    | succ i => simpa using ih (by simpa using hi)
theorem ints_set {vs : List Value} {ns : List Int} (h : IntsAre vs ns) (d : Int) (tk : Tok) : ∀ (i : Nat), IntsAre (vs.set i (.int d tk)) (ns.set i d) := by
  induction h with
  | nil => intro i; exact .nil
  | cons k t h ih =>
    intro i
    cases i with
    | zero => exact .cons _ _ h
    | succ i => exact .cons _ _ (ih i)
theorem fmod_pos {a b : Int} (h : 0 < b) : 0 ≤ a.fmod b ∧ a.fmod b < b := by
  rw [Int.fmod_eq_emod_of_nonneg a (by omega)]
  exact ⟨Int.emod_nonneg a (by omega), Int.emod_lt_of_pos a h⟩
def zList (z : PHeap) (l : Addr) (vs : List Value) : Prop := ∃ o, z l = some o ∧ o.cls = .type "list" ∧ ∃ n, o.data = .seq vs.toArray n

abbrev K2 : List Str := ["script", "drawn", "at", "quoted", "pool", "sign", "row", "place", "scraps", "pieces", "texts", "level", "size", "text", "spans", "writing", "told", "span"]
abbrev Gs2 : List Str := ["len", "range", "_law_wrote", "escape"]
def Drawn (vs : List Value) (ns : List Int) : Prop := IntsAre vs ns ∧ ns.length = 10 ∧ ∀ d ∈ ns, 0 ≤ d ∧ d < 443520
section
variable {w : World} {A : Around} {E : Value → Shared → Prop} {h₀ : Heap} {mg mb : Str → Option Value} {g : Shared} {z z' : PHeap} {L : Addr} {vals : List (Option Value)} {ms : List (Addr × Obj)} {s : Shared} {env : Env}

theorem zList.at {l : Addr} {vs : List Value} (h : zList z l vs) (S : St h₀ g z L K2 vals ms s) : s.heap.IsList l vs.toArray := by
  obtain ⟨o, h1, h2⟩ := h; exact ⟨o, S.keep _ _ h1, h2⟩
theorem zList.mono {l : Addr} {vs : List Value} (h : zList z l vs) (le : Le z z') : zList z' l vs := by
  obtain ⟨o, h1, h2⟩ := h; exact ⟨o, le _ _ h1, h2⟩

set_option maxHeartbeats 8000000 in
theorem seg_a {sl c : Addr} {oc : Obj} {svs : List Value} {sns : List Int} {Q : Flow → Shared → Prop} (G : G2 h₀ mg mb) (hh : A.handled = none) (O : EnvOk env L K2 Gs2)
    (S : St h₀ g z L K2 [some (.ref sl), none, none, none, none, none, none, none, none, none, none, none, none, none, none, none, none, none] [(c, oc)] s)
    (hz : zList z sl svs) (hi : IntsAre svs sns) (hl : sns.length ≤ 63)
    (h : ∀ (z' : PHeap) (s' : Shared) (D : Addr) (vs : List Value) (ns : List Int) (n : Nat) (x : Option Value), Le z z' → Drawn vs ns → St h₀ g z' L K2 [some (.ref sl), some (.ref D), x, none, none, none, none, none, none, none, none, none, none, none, none, none, none, none] [(D, listOf vs.toArray n), (c, oc)] s' →
      wpAny (model P2 w) A (execs ((bodyOf P2 6).drop 2) env) Q E s') :
    wpAny (model P2 w) A (execs (bodyOf P2 6) env) Q E s := by
  have hvl := hi.length
  refine exC ?_
  repeat walk_at "zz"
  with_reducible rename St _ _ _ _ _ _ _ _ => S
  refine lenL S (hz.at S) (by rw [List.size_toArray, hvl, sizeLine_eq]; omega) ?_
  clear S; intro t1 s S
  repeat walk_at "zz"
  with_reducible rename St _ _ _ _ _ _ _ _ => S
  refine newL S ?hsz ?_
  case hsz => exact Nat.le_of_ble_eq_true rfl
  clear S; intro D s S
  repeat walk_at "zz"
  refine exC ?_
  repeat walk_at "zz"
  with_reducible rename St _ _ _ _ _ _ _ _ => S
  refine lenL S (hz.at S) (by rw [List.size_toArray, hvl, sizeLine_eq]; omega) ?_
  clear S; intro t2 s S
  repeat walk_at "zz"
  with_reducible rename St _ _ _ _ _ _ _ _ => S
  rw [List.size_toArray, hvl] at S
  refine forR S hh (by omega) (fun i z' vals' ms' => ∃ x vs ns n, Drawn vs ns ∧ vals' = [some (.ref sl), some (.ref D), x, none, none, none, none, none, none, none, none, none, none, none, none, none, none, none] ∧ ms' = [(D, listOf vs.toArray n), (c, oc)])
    ⟨_, _, [0, 0, 0, 0, 0, 0, 0, 0, 0, (sns.length : Int)], _, ⟨?_, rfl, ?_⟩, rfl, rfl⟩ ?_ ?_
  · exact .cons _ _ (.cons _ _ (.cons _ _ (.cons _ _ (.cons _ _ (.cons _ _ (.cons _ _ (.cons _ _ (.cons _ _ (.cons _ _ .nil)))))))))
  · intro d hd
    simp only [List.mem_cons, List.not_mem_nil, or_false] at hd
    omega
  · intro E' i tk z₁ vals' I o ms' s hi' le hJ S
    obtain ⟨x, vs, ns, n, hD, rfl, rfl⟩ := hJ
    refine wpAny_assign_Name ?_
    repeat walk_at "z"
    with_reducible rename St _ _ _ _ _ _ _ _ => S
    have hm := fmod_pos (a := (i : Int)) (b := 10) (by decide)
    have hk : ((i : Int).fmod 10).toNat < ns.length := by rw [hD.2.1]; omega
    obtain ⟨d, tkd, hd1, hd2⟩ := ints_get hD.1 hk
    have hdm := hD.2.2 d (List.mem_of_getElem? hd2)
    refine itemZ (isLm S (.tail _ (.head _))) hm.1 (by omega) (by simpa using hd1) ?_
    repeat walk_at "z"
    with_reducible rename St _ _ _ _ _ _ _ _ => S
    refine mulI S (IntMulOk.of_right (by decide)) ?_
    clear S; intro t3 s S
    repeat walk_at "z"
    with_reducible rename St _ _ _ _ _ _ _ _ => S
    obtain ⟨e, tke, he1, he2⟩ := ints_get hi hi'
    refine itemZ ((hz.mono le).at S) (by omega) (by omega) (by simpa using he1) ?_
    repeat walk_at "z"
    with_reducible rename St _ _ _ _ _ _ _ _ => S
    have hn : (i : Int).fmod 10 < (vs.toArray.size : Int) := by rw [List.size_toArray, hD.1.length, hD.2.1]; exact hm.2
    refine setAt (pre := [(I, o)]) S hm.1 (by omega) hn ?_
    clear S; intro s S
    repeat walk_at "z"
    rw [List.setIfInBounds_toArray] at S
    refine ⟨_, _, _, Le.refl _, ⟨_, _, ns.set ((i : Int).fmod 10).toNat ((d * 7 + e).fmod 443520), _, ⟨ints_set hD.1 _ _ _, by rw [List.length_set]; exact hD.2.1, ?_⟩, rfl, rfl⟩, S⟩
    intro y hy
    rcases List.mem_or_eq_of_mem_set hy with hy | rfl
    · exact hD.2.2 y hy
    · exact fmod_pos (by decide)
  · intro z₁ vals' ms' s le hJ S
    obtain ⟨x, vs, ns, n, hD, rfl, rfl⟩ := hJ
    refine nqN ?_
    have h2 := h z₁ s D vs ns n x le hD S
    exact h2
end
end Mine

namespace Mine
local macro_rules | `(tactic| walk_at "z ctl") => `(tactic| first | with_reducible refine iteT ?_ | with_reducible refine iteF ?_ | with_reducible refine nqN ?_ | with_reducible refine nqR ?_ | with_reducible refine nqB ?_ | with_reducible refine tqN ?_ | with_reducible refine tqB ?_ | with_reducible refine tqR ?_ | with_reducible refine rqR ?_ | with_reducible refine wpAny_execs_nil ?_ | with_reducible refine wpAny_If ?_ | with_reducible refine wpAny_Return_some ?_ | with_reducible refine wpAny_BinOp ?_ | with_reducible refine Subscript_ ?_ | with_reducible refine wpAny_Break ?_ | with_reducible refine Tuple_ ?_ | with_reducible refine List_ ?_ | with_reducible refine spliced_none ?_ | with_reducible refine callWith_method0 ?_ | with_reducible refine isTrue_and_nil ?_ | with_reducible refine isTrue_or_nil ?_ | with_reducible refine isTrue_and ?_ | with_reducible refine isTrue_or ?_ | with_reducible refine isTrue_not ?_ | with_reducible refine BoolOp_one ?_ | with_reducible refine BoolOp_and ?_ | with_reducible refine BoolOp_or ?_ | with_reducible refine wpAny_truthy_bool ?_ | with_reducible refine Constant_bool ?_ | with_reducible refine Constant_none ?_ | with_reducible refine evalPart_none_step ?_ | with_reducible refine evalPart_some_step ?_ | with_reducible refine wpAny_Slice ?_ | with_reducible refine GM.startswith ?_ | with_reducible refine GM.replace ?_ | with_reducible refine GM.find ?_ | with_reducible refine GM.split ?_ | with_reducible refine SC.startswith ?_ | with_reducible refine eq_str ?_ | with_reducible refine in_str ?_ | with_reducible refine ne_bool ?_ | with_reducible refine eq_int ?_ | with_reducible refine lt_int ?_ | with_reducible refine gt_int ?_ | ((with_reducible show wpAny _ _ (exec (Stmt.Assign [Expr.Name _ _] _ _) _) _ _ _); refine wpAny_Assign_Name ?_) | ((with_reducible show wpAny _ _ (exec (Stmt.Assign [Expr.Subscript _ _ _] _ _) _) _ _ _); refine wpAny_Assign_Subscript ?_) | ((with_reducible show wpAny _ _ (exec (Stmt.Expr _ _) _) _ _ _); refine exprZ (by assumption) ?_) | ((with_reducible show wpAny _ _ (exec (Stmt.For _ _ _ _ _) _) _ _ _); refine wpAny_For ?_) | ((with_reducible show wpAny _ _ (eval (Expr.Compare _ [_] [_] _) _) _ _ _); refine wpAny_Compare1 ?_) | ((with_reducible show wpAny _ _ (PySem.isTrue (Expr.Compare _ [_] [_] _) _ _) _ _ _); refine wpAny_isTrue_Compare1 ?_) | ((with_reducible show wpAny _ _ (PySem.isTrue (Expr.Name _ _) _ _) _ _ _); refine isTrue_plain ?_) | ((with_reducible show wpAny _ _ (PySem.isTrue (Expr.Call _ _ _ _) _ _) _ _ _); refine isTrue_plain ?_) | ((with_reducible show wpAny _ _ (eval (Expr.Call (Expr.Attribute _ _ _) _ [] _) _) _ _ _); refine MethodCall_ ?_) | ((with_reducible show wpAny _ _ (eval (Expr.Call (Expr.Name _ _) _ [] _) _) _ _ _); refine Call_ ?_) | ((with_reducible show wpAny _ _ (spliced (backTo _ (starEach (_ :: _) _))) _ _ _); refine spliced_more ?_) | ((with_reducible show wpAny _ _ (callWith _ (Value.builtin _) [] (backTo _ (starEach (_ :: _) _)) []) _ _ _); refine PyProof.Rows.callWith_builtin1 ?_) | ((with_reducible show wpAny _ _ (callWith _ (Value.builtin _) [_] (backTo _ (starEach (_ :: _) _)) []) _ _ _); refine cwM1 ?_) | ((with_reducible show wpAny _ _ (callWith _ (Value.type _) [] (backTo _ (starEach (_ :: _) _)) []) _ _ _); refine PyProof.Rows.callWith_type1 ?_))
local macro_rules | `(tactic| walk_at "z ld") => `(tactic| ((with_reducible rename St _ _ _ _ _ _ _ _ => zS); (with_reducible show wpAny _ _ (eval (Expr.Name _ _) _) _ _ _); first | with_reducible refine ld0 zS (by with_reducible assumption) ?_ | with_reducible refine ld1 zS (by with_reducible assumption) ?_ | with_reducible refine ld2 zS (by with_reducible assumption) ?_ | with_reducible refine ld3 zS (by with_reducible assumption) ?_ | with_reducible refine ld4 zS (by with_reducible assumption) ?_ | with_reducible refine ld5 zS (by with_reducible assumption) ?_ | with_reducible refine ld6 zS (by with_reducible assumption) ?_ | with_reducible refine ld7 zS (by with_reducible assumption) ?_ | with_reducible refine ld8 zS (by with_reducible assumption) ?_ | with_reducible refine ld9 zS (by with_reducible assumption) ?_ | with_reducible refine ld10 zS (by with_reducible assumption) ?_ | with_reducible refine ld11 zS (by with_reducible assumption) ?_ | with_reducible refine ld12 zS (by with_reducible assumption) ?_ | with_reducible refine ld13 zS (by with_reducible assumption) ?_ | with_reducible refine ld14 zS (by with_reducible assumption) ?_ | with_reducible refine ld15 zS (by with_reducible assumption) ?_ | with_reducible refine ld16 zS (by with_reducible assumption) ?_ | with_reducible refine ld17 zS (by with_reducible assumption) ?_ | with_reducible refine ld18 zS (by with_reducible assumption) ?_ | with_reducible refine ld19 zS (by with_reducible assumption) ?_ | with_reducible refine ld20 zS (by with_reducible assumption) ?_ | with_reducible refine ld21 zS (by with_reducible assumption) ?_))
local macro_rules | `(tactic| walk_at "z st") => `(tactic| ((with_reducible rename St _ _ _ _ _ _ _ _ => zS); (with_reducible show wpAny _ _ (storeName _ _ _) _ _ _); (first | with_reducible refine st0 zS (by with_reducible assumption) ?_ | with_reducible refine st1 zS (by with_reducible assumption) ?_ | with_reducible refine st2 zS (by with_reducible assumption) ?_ | with_reducible refine st3 zS (by with_reducible assumption) ?_ | with_reducible refine st4 zS (by with_reducible assumption) ?_ | with_reducible refine st5 zS (by with_reducible assumption) ?_ | with_reducible refine st6 zS (by with_reducible assumption) ?_ | with_reducible refine st7 zS (by with_reducible assumption) ?_ | with_reducible refine st8 zS (by with_reducible assumption) ?_ | with_reducible refine st9 zS (by with_reducible assumption) ?_ | with_reducible refine st10 zS (by with_reducible assumption) ?_ | with_reducible refine st11 zS (by with_reducible assumption) ?_ | with_reducible refine st12 zS (by with_reducible assumption) ?_ | with_reducible refine st13 zS (by with_reducible assumption) ?_ | with_reducible refine st14 zS (by with_reducible assumption) ?_ | with_reducible refine st15 zS (by with_reducible assumption) ?_ | with_reducible refine st16 zS (by with_reducible assumption) ?_ | with_reducible refine st17 zS (by with_reducible assumption) ?_ | with_reducible refine st18 zS (by with_reducible assumption) ?_ | with_reducible refine st19 zS (by with_reducible assumption) ?_ | with_reducible refine st20 zS (by with_reducible assumption) ?_ | with_reducible refine st21 zS (by with_reducible assumption) ?_); clear zS; intro _ _ _))
local macro_rules | `(tactic| walk_at "z op") => `(tactic| ((with_reducible rename St _ _ _ _ _ _ _ _ => zS); (first | with_reducible refine kInt zS ?_ | with_reducible refine kStr zS ?_ | with_reducible refine addI zS ?_ | with_reducible refine modI zS (by decide) ?_ | with_reducible refine subI zS ?_ | with_reducible refine range1 zS ?_ | with_reducible refine findS zS ?_); clear zS; intros))
local macro_rules | `(tactic| walk_at "z new") => `(tactic| ((with_reducible rename St _ _ _ _ _ _ _ _ => zS); (first | ((with_reducible show wpAny _ _ (newTuple _) _ _ _); refine newT zS ?_ ?_; exact Nat.le_of_ble_eq_true rfl) | ((with_reducible show wpAny _ _ (newList _) _ _ _); refine newL zS ?_ ?_; exact Nat.le_of_ble_eq_true rfl)); clear zS; intro _ _ _))
local macro_rules | `(tactic| walk_at "zz") => `(tactic| first | walk_at "z ctl" | walk_at "z ld" | walk_at "z st" | walk_at "z op" | walk_at "z nm")
local macro_rules | `(tactic| walk_at "z") => `(tactic| first | with_reducible refine exC ?_ | walk_at "zz")
local macro_rules | `(tactic| walk_at "zn") => `(tactic| first | walk_at "zz" | walk_at "z new")

local macro_rules | `(tactic| walk_at "z nm") => `(tactic| ((with_reducible rename St _ _ _ _ _ _ _ _ => zS); (first | with_reducible refine ldLen zS (by with_reducible assumption) (by with_reducible assumption) (by decide) ?_ | with_reducible refine ldRange zS (by with_reducible assumption) (by with_reducible assumption) (by decide) ?_)))

theorem strs_get {vs : List Value} {xs : List Str} (h : StrsAre vs xs) : ∀ {i : Nat}, i < xs.length → ∃ x tk, vs[i]? = some (.str x tk) ∧ xs[i]? = some x := by
  induction h with
  | nil => intro i hi; simp at hi
  | cons k t _ ih =>
    intro i hi
    cases i with
    | zero => exact ⟨k, t, rfl, rfl⟩
    | succ i => simpa using ih (by simpa using hi)
theorem strs_erase {vs : List Value} {xs : List Str} (h : StrsAre vs xs) : ∀ (i : Nat), StrsAre (vs.eraseIdx i) (xs.eraseIdx i) := by
  induction h with
  | nil => intro i; exact .nil
  | cons k t h ih =>
    intro i
    cases i with
    | zero => exact h
    | succ i => exact .cons _ _ (ih i)
theorem wrote_len (b : Bool) {x : Str} (h : x.length = 1) : 1 ≤ (wroteF b x).length ∧ (wroteF b x).length ≤ 6 := by
  unfold wroteF
  split
  · rename_i c hc
    have hm := List.mem_of_find?_eq_some hc
    have : ∀ c ∈ wtab, 1 ≤ c.2.length ∧ c.2.length ≤ 6 := by decide +kernel
    exact this c hm
  · omega

/-- the codes drawn so far -/
def CodesUp (z : PHeap) (b : Bool) (cvs : List Value) (cs : List (Str × Str)) : Prop :=
  cvs.length = cs.length ∧ (∀ (i : Nat) (v : Value), cvs[i]? = some v → ∃ c, cs[i]? = some c ∧ PairAt z v c) ∧ ∀ c ∈ cs, c.1.length = 1 ∧ c.2 = wroteF b c.1
theorem CodesUp.mono {z z' : PHeap} {b : Bool} {cvs : List Value} {cs : List (Str × Str)} (h : CodesUp z b cvs cs) (le : Le z z') : CodesUp z' b cvs cs :=
  ⟨h.1, fun i v hv => by obtain ⟨c, h1, h2⟩ := h.2.1 i v hv; exact ⟨c, h1, h2.mono le⟩, h.2.2⟩
theorem CodesUp.snoc {z : PHeap} {b : Bool} {cvs : List Value} {cs : List (Str × Str)} {v : Value} {c : Str × Str} (h : CodesUp z b cvs cs) (hp : PairAt z v c) (h1 : c.1.length = 1) (h2 : c.2 = wroteF b c.1) : CodesUp z b (cvs ++ [v]) (cs ++ [c]) := by
  refine ⟨by simp [h.1], fun i u hu => ?_, fun d hd => ?_⟩
  · by_cases hi : i < cvs.length
    · rw [List.getElem?_append_left hi] at hu
      obtain ⟨d, e1, e2⟩ := h.2.1 i u hu
      exact ⟨d, by rw [List.getElem?_append_left (by rw [← h.1]; exact hi)]; exact e1, e2⟩
    · rw [List.getElem?_append_right (by omega)] at hu
      have h0 : i - cvs.length = 0 := by
        have := (List.getElem?_eq_some_iff.mp hu).1
        simp at this; omega
      rw [h0] at hu; simp at hu; subst hu
      exact ⟨c, by rw [List.getElem?_append_right (by rw [← h.1]; omega), ← h.1, h0]; rfl, hp⟩
  · rcases List.mem_append.mp hd with hd | hd
    · exact h.2.2 d hd
    · simp at hd; subst hd; exact ⟨h1, h2⟩

section
variable {w : World} {A : Around} {E : Value → Shared → Prop} {h₀ : Heap} {mg mb : Str → Option Value} {g : Shared} {z z' : PHeap} {L : Addr} {K Gs : List Str} {vals : List (Option Value)} {ms : List (Addr × Obj)} {s : Shared} {env : Env}

theorem stCell {M : Model} {pre post : List (Addr × Obj)} {c : Addr} {oc : Obj} {x : Str} {v₀ : Option Value} {v : Value} {Q : Unit → Shared → Prop} (S : St h₀ g z L K vals (pre ++ (c, oc) :: post) s) (hk : env.scope.kind = .function) (hl : env.kindOf x = some .cell) (hc : env.cells.lookup x = some c)
    (hd : oc.data = .cell v₀) (h : ∀ s' oc', oc'.data = .cell (some v) → St h₀ g z L K vals (pre ++ (c, oc') :: post) s' → Q () s') : wpAny M A (storeName env x v) Q E s := by
  refine wpAny_storeName_cell hk hl hc ⟨oc, (S.own (c, oc) (by simp)).1, hd⟩ fun h' hv hs => ?_
  obtain ⟨o', ho', hd'⟩ := hv
  exact h _ o' hd' (S.upd hs ho')
theorem ldCell {M : Model} {c : Addr} {oc : Obj} {x : Str} {pos : Pos} {v : Value} {Q : Value → Shared → Prop} (hk : env.scope.kind = .function) (hl : env.kindOf x = some .cell) (hc : env.cells.lookup x = some c)
    (ho : s.heap.get? c = some oc) (hd : oc.data = .cell (some v)) (h : Q v s) (hb : (x == ("__debug__" : Str)) = false := by decide) : wpAny M A (eval (.Name x pos) env) Q E s :=
  wpAny_Name (wpAny_loadName_cell hk hl hc ⟨oc, ho, hd⟩ h) hb

set_option maxHeartbeats 8000000 in
theorem seg_b {D sl c : Addr} {oc : Obj} {vs : List Value} {ns : List Int} {n : Nat} {x : Option Value} {Q : Flow → Shared → Prop} (G : G2 h₀ mg mb) (hh : A.handled = none) (hd : A.depth ≤ 500) (O : EnvOk env L K2 Gs2)
    (hcl : env.kindOf (Str.ofString "codes") = some .cell) (hcc : env.cells.lookup (Str.ofString "codes") = some c) (hoc : oc.data = .cell none) (hD : Drawn vs ns)
    (S : St h₀ g z L K2 [some (.ref sl), some (.ref D), x, none, none, none, none, none, none, none, none, none, none, none, none, none, none, none] [(D, listOf vs.toArray n), (c, oc)] s)
    (h : ∀ (z' : PHeap) (s' : Shared) (C : Addr) (oc' : Obj) (cs : List (Str × Str)) (b : Bool) (x y p : Option Value), Le z z' → zList z' D vs → z' c = some oc' → oc'.data = .cell (some (.ref C)) → CodesAt z' C cs → cs.length = 4 → (∀ c ∈ cs, c.1.length = 1 ∧ c.2 = wroteF b c.1) →
      St h₀ g z' L K2 [some (.ref sl), some (.ref D), x, some (.bool b), p, y, none, none, none, none, none, none, none, none, none, none, none, none] [] s' →
      wpAny (model P2 w) A (execs ((bodyOf P2 6).drop 6) env) Q E s') :
    wpAny (model P2 w) A (execs ((bodyOf P2 6).drop 2) env) Q E s := by
  refine exC ?_
  repeat walk_at "zz"
  with_reducible rename St _ _ _ _ _ _ _ _ => S
  obtain ⟨d, tkd, hd1, hd2⟩ := ints_get hD.1 (i := 4) (by rw [hD.2.1]; decide)
  refine itemZ (isLm S (.head _)) (by decide) (by decide) (by simpa using hd1) ?_
  repeat walk_at "zz"
  refine exC ?_
  repeat walk_at "zz"
  with_reducible rename St _ _ _ _ _ _ _ _ => S
  refine newL S ?hsz ?_
  case hsz => exact Nat.le_of_ble_eq_true rfl
  clear S; intro Dp s S
  repeat walk_at "zz"
  refine exC ?_
  repeat walk_at "zz"
  with_reducible rename St _ _ _ _ _ _ _ _ => S
  refine newL S ?hsz ?_
  case hsz => exact Nat.le_of_ble_eq_true rfl
  clear S; intro Dc s S
  refine stCell (pre := [_, _, _]) (post := []) S O.kind hcl hcc hoc ?_
  clear S; intro s oc' hoc' S
  repeat walk_at "zz"
  refine exC ?_
  repeat walk_at "zz"
  with_reducible rename St _ _ _ _ _ _ _ _ => S
  dsimp only [List.cons_append, List.nil_append] at S
  generalize hb : (d.fmod 2 == 0) = b at S
  refine forR (n := 4) S hh (by decide) (fun i z' vals' ms' => ∃ x y pvs ps np cvs cs nc, StrsAre pvs ps ∧ ps.length = 11 - i ∧ (∀ p ∈ ps, p.length = 1) ∧ CodesUp z' b cvs cs ∧ cs.length = i ∧
      vals' = [some (.ref sl), some (.ref D), x, some (.bool b), some (.ref Dp), y, none, none, none, none, none, none, none, none, none, none, none, none] ∧
      ms' = [(Dc, listOf cvs.toArray nc), (Dp, listOf pvs.toArray np), (D, listOf vs.toArray n), (c, oc')]) ?_ ?_ ?_
  · refine ⟨_, _, _, _, _, [], [], _, .cons _ _ (.cons _ _ (.cons _ _ (.cons _ _ (.cons _ _ (.cons _ _ (.cons _ _ (.cons _ _ (.cons _ _ (.cons _ _ (.cons _ _ .nil)))))))))), rfl, ?_, ⟨rfl, fun i v hv => by simp at hv, fun c hc => by simp at hc⟩, rfl, rfl, rfl⟩
    decide +kernel
  · intro E' i tk z₁ vals' I o ms' s hi' le hJ S
    obtain ⟨x, y, pvs, ps, np, cvs, cs, nc, hp, hpl, hp1, hc, hcn, rfl, rfl⟩ := hJ
    refine wpAny_assign_Name ?_
    repeat walk_at "zz"
    refine exC ?_
    repeat walk_at "zz"
    with_reducible rename St _ _ _ _ _ _ _ _ => S
    refine getPop S (.tail _ (.tail _ (.head _))) ?_
    repeat walk_at "zz"
    with_reducible rename St _ _ _ _ _ _ _ _ => S
    obtain ⟨e, tke, he1, he2⟩ := ints_get hD.1 (i := i) (by rw [hD.2.1]; omega)
    refine itemZ (isLm S (.tail _ (.tail _ (.tail _ (.head _))))) (by omega) (by omega) (by simpa using he1) ?_
    repeat walk_at "zz"
    with_reducible rename St _ _ _ _ _ _ _ _ => S
    have hpz : pvs.toArray.size = 11 - i := by rw [List.size_toArray, hp.length, hpl]
    refine lenL S (isLm S (.tail _ (.tail _ (.head _)))) (by rw [hpz, sizeLine_eq]; omega) ?_
    clear S; intro t2 s S
    repeat walk_at "zz"
    with_reducible rename St _ _ _ _ _ _ _ _ => S
    refine modI S (by rw [hpz]; omega) ?_
    clear S; intro t3 s S
    repeat walk_at "zz"
    with_reducible rename St _ _ _ _ _ _ _ _ => S
    have hm := fmod_pos (a := e) (b := (pvs.toArray.size : Int)) (by rw [hpz]; omega)
    obtain ⟨sg, tks, hs1, hs2⟩ := strs_get hp (i := (e.fmod (pvs.toArray.size : Int)).toNat) (by rw [hpl]; rw [hpz] at hm ⊢; omega)
    have hsg := hp1 sg (List.mem_of_getElem? hs2)
    refine popAt (pre := [_, _]) S hm.1 hm.2 (by rw [hpz, sizeLine_eq]; omega) (by simpa using hs1) ?_
    clear S; intro s S
    dsimp only [List.cons_append, List.nil_append] at S
    repeat walk_at "zz"
    refine exC ?_
    repeat walk_at "zz"
    with_reducible rename St _ _ _ _ _ _ _ _ => S
    refine ldCell O.kind hcl hcc (S.own _ (.tail _ (.tail _ (.tail _ (.tail _ (.head _)))))).1 hoc' ?_
    refine getAppend S (.tail _ (.head _)) ?_
    repeat walk_at "zz"
    with_reducible rename St _ _ _ _ _ _ _ _ => S
    refine ldG S O (by decide) G.gn G.g29 ?_
    obtain ⟨oc₀, od, osl, name, qual, kV, doc, pm, an, cdv, ct, ho, hcd⟩ := G.f29
    refine callWith_fn ho rfl ?_ rfl
    repeat walk_at "zz"
    with_reducible rename St _ _ _ _ _ _ _ _ => S
    refine ⟨S.base, useSpec S (wrote_spec (t := tks) G hh (by omega) S.base) ?_⟩
    rintro v z₂ s₂ le₂ len₂ S₂ ⟨tw, rfl⟩
    clear S
    repeat walk_at "zz"
    with_reducible rename St _ _ _ _ _ _ _ _ => S
    refine newT S ?hsz ?_
    case hsz => exact Nat.le_of_ble_eq_true rfl
    clear S; intro T s S
    repeat walk_at "zz"
    with_reducible rename St _ _ _ _ _ _ _ _ => S
    obtain ⟨z₃, le₃, hT, _, S⟩ := S.freeze
    have hcl1 : cvs.toArray.size ≤ sizeLine := by rw [List.size_toArray, hc.1, hcn, sizeLine_eq]; omega
    refine app1 S hcl1 ?_
    clear S; intro s S
    repeat walk_at "zz"
    rw [List.push_toArray] at S
    have e1 : pvs.toArray.eraseIdxIfInBounds (e.fmod (pvs.toArray.size : Int)).toNat = (pvs.eraseIdx (e.fmod (pvs.toArray.size : Int)).toNat).toArray := by
      rw [List.eraseIdxIfInBounds_toArray]
    rw [e1] at S
    refine ⟨_, _, _, le₂.trans le₃, ⟨_, _, _, _, _, _, cs ++ [(sg, wroteF b sg)], _, strs_erase hp _, ?_, fun p hp => hp1 p (List.mem_of_mem_eraseIdx hp), ((hc.mono le₂).mono le₃).snoc ⟨T, _, _, rfl, hT⟩ hsg rfl, by simp [hcn], rfl, rfl⟩, S⟩
    rw [List.length_eraseIdx_of_lt (by rw [hpl]; rw [hpz] at hm ⊢; omega), hpl]; omega
  · intro z₁ vals' ms' s le hJ S
    obtain ⟨x, y, pvs, ps, np, cvs, cs, nc, hp, hpl, hp1, hc, hcn, rfl, rfl⟩ := hJ
    refine nqN ?_
    obtain ⟨z₂, l2, q2, _, S⟩ := S.freeze
    have S := S.drop
    obtain ⟨z₃, l3, q3, _, S⟩ := S.freeze
    obtain ⟨z₄, l4, q4, _, S⟩ := S.freeze
    have hc2 := ((hc.mono l2).mono l3).mono l4
    have h2 := h z₄ _ Dc oc' cs b x y (some (.ref Dp)) (((le.trans l2).trans l3).trans l4) ⟨_, l4 _ _ q3, rfl, _, rfl⟩ q4 hoc' ⟨cvs, nc, l4 _ _ (l3 _ _ q2), hc2.1, hc2.2.1⟩ hcn hc2.2.2 S
    exact h2
end
end Mine

namespace Mine
local macro_rules | `(tactic| walk_at "z ctl") => `(tactic| first | with_reducible refine iteT ?_ | with_reducible refine iteF ?_ | with_reducible refine nqN ?_ | with_reducible refine nqR ?_ | with_reducible refine nqB ?_ | with_reducible refine tqN ?_ | with_reducible refine tqB ?_ | with_reducible refine tqR ?_ | with_reducible refine rqR ?_ | with_reducible refine wpAny_execs_nil ?_ | with_reducible refine wpAny_If ?_ | with_reducible refine wpAny_Return_some ?_ | with_reducible refine wpAny_BinOp ?_ | with_reducible refine Subscript_ ?_ | with_reducible refine wpAny_Break ?_ | with_reducible refine Tuple_ ?_ | with_reducible refine List_ ?_ | with_reducible refine spliced_none ?_ | with_reducible refine callWith_method0 ?_ | with_reducible refine isTrue_and_nil ?_ | with_reducible refine isTrue_or_nil ?_ | with_reducible refine isTrue_and ?_ | with_reducible refine isTrue_or ?_ | with_reducible refine isTrue_not ?_ | with_reducible refine BoolOp_one ?_ | with_reducible refine BoolOp_and ?_ | with_reducible refine BoolOp_or ?_ | with_reducible refine wpAny_truthy_bool ?_ | with_reducible refine Constant_bool ?_ | with_reducible refine Constant_none ?_ | with_reducible refine evalPart_none_step ?_ | with_reducible refine evalPart_some_step ?_ | with_reducible refine wpAny_Slice ?_ | with_reducible refine GM.startswith ?_ | with_reducible refine GM.replace ?_ | with_reducible refine GM.find ?_ | with_reducible refine GM.split ?_ | with_reducible refine SC.startswith ?_ | with_reducible refine eq_str ?_ | with_reducible refine in_str ?_ | with_reducible refine ne_bool ?_ | with_reducible refine eq_int ?_ | with_reducible refine lt_int ?_ | with_reducible refine gt_int ?_ | ((with_reducible show wpAny _ _ (exec (Stmt.Assign [Expr.Name _ _] _ _) _) _ _ _); refine wpAny_Assign_Name ?_) | ((with_reducible show wpAny _ _ (exec (Stmt.Assign [Expr.Subscript _ _ _] _ _) _) _ _ _); refine wpAny_Assign_Subscript ?_) | ((with_reducible show wpAny _ _ (exec (Stmt.Expr _ _) _) _ _ _); refine exprZ (by assumption) ?_) | ((with_reducible show wpAny _ _ (exec (Stmt.For _ _ _ _ _) _) _ _ _); refine wpAny_For ?_) | ((with_reducible show wpAny _ _ (eval (Expr.Compare _ [_] [_] _) _) _ _ _); refine wpAny_Compare1 ?_) | ((with_reducible show wpAny _ _ (PySem.isTrue (Expr.Compare _ [_] [_] _) _ _) _ _ _); refine wpAny_isTrue_Compare1 ?_) | ((with_reducible show wpAny _ _ (PySem.isTrue (Expr.Name _ _) _ _) _ _ _); refine isTrue_plain ?_) | ((with_reducible show wpAny _ _ (PySem.isTrue (Expr.Call _ _ _ _) _ _) _ _ _); refine isTrue_plain ?_) | ((with_reducible show wpAny _ _ (eval (Expr.Call (Expr.Attribute _ _ _) _ [] _) _) _ _ _); refine MethodCall_ ?_) | ((with_reducible show wpAny _ _ (eval (Expr.Call (Expr.Name _ _) _ [] _) _) _ _ _); refine Call_ ?_) | ((with_reducible show wpAny _ _ (spliced (backTo _ (starEach (_ :: _) _))) _ _ _); refine spliced_more ?_) | ((with_reducible show wpAny _ _ (callWith _ (Value.builtin _) [] (backTo _ (starEach (_ :: _) _)) []) _ _ _); refine PyProof.Rows.callWith_builtin1 ?_) | ((with_reducible show wpAny _ _ (callWith _ (Value.builtin _) [_] (backTo _ (starEach (_ :: _) _)) []) _ _ _); refine cwM1 ?_) | ((with_reducible show wpAny _ _ (callWith _ (Value.type _) [] (backTo _ (starEach (_ :: _) _)) []) _ _ _); refine PyProof.Rows.callWith_type1 ?_))
local macro_rules | `(tactic| walk_at "z ld") => `(tactic| ((with_reducible rename St _ _ _ _ _ _ _ _ => zS); (with_reducible show wpAny _ _ (eval (Expr.Name _ _) _) _ _ _); first | with_reducible refine ld0 zS (by with_reducible assumption) ?_ | with_reducible refine ld1 zS (by with_reducible assumption) ?_ | with_reducible refine ld2 zS (by with_reducible assumption) ?_ | with_reducible refine ld3 zS (by with_reducible assumption) ?_ | with_reducible refine ld4 zS (by with_reducible assumption) ?_ | with_reducible refine ld5 zS (by with_reducible assumption) ?_ | with_reducible refine ld6 zS (by with_reducible assumption) ?_ | with_reducible refine ld7 zS (by with_reducible assumption) ?_ | with_reducible refine ld8 zS (by with_reducible assumption) ?_ | with_reducible refine ld9 zS (by with_reducible assumption) ?_ | with_reducible refine ld10 zS (by with_reducible assumption) ?_ | with_reducible refine ld11 zS (by with_reducible assumption) ?_ | with_reducible refine ld12 zS (by with_reducible assumption) ?_ | with_reducible refine ld13 zS (by with_reducible assumption) ?_ | with_reducible refine ld14 zS (by with_reducible assumption) ?_ | with_reducible refine ld15 zS (by with_reducible assumption) ?_ | with_reducible refine ld16 zS (by with_reducible assumption) ?_ | with_reducible refine ld17 zS (by with_reducible assumption) ?_ | with_reducible refine ld18 zS (by with_reducible assumption) ?_ | with_reducible refine ld19 zS (by with_reducible assumption) ?_ | with_reducible refine ld20 zS (by with_reducible assumption) ?_ | with_reducible refine ld21 zS (by with_reducible assumption) ?_))
local macro_rules | `(tactic| walk_at "z st") => `(tactic| ((with_reducible rename St _ _ _ _ _ _ _ _ => zS); (with_reducible show wpAny _ _ (storeName _ _ _) _ _ _); (first | with_reducible refine st0 zS (by with_reducible assumption) ?_ | with_reducible refine st1 zS (by with_reducible assumption) ?_ | with_reducible refine st2 zS (by with_reducible assumption) ?_ | with_reducible refine st3 zS (by with_reducible assumption) ?_ | with_reducible refine st4 zS (by with_reducible assumption) ?_ | with_reducible refine st5 zS (by with_reducible assumption) ?_ | with_reducible refine st6 zS (by with_reducible assumption) ?_ | with_reducible refine st7 zS (by with_reducible assumption) ?_ | with_reducible refine st8 zS (by with_reducible assumption) ?_ | with_reducible refine st9 zS (by with_reducible assumption) ?_ | with_reducible refine st10 zS (by with_reducible assumption) ?_ | with_reducible refine st11 zS (by with_reducible assumption) ?_ | with_reducible refine st12 zS (by with_reducible assumption) ?_ | with_reducible refine st13 zS (by with_reducible assumption) ?_ | with_reducible refine st14 zS (by with_reducible assumption) ?_ | with_reducible refine st15 zS (by with_reducible assumption) ?_ | with_reducible refine st16 zS (by with_reducible assumption) ?_ | with_reducible refine st17 zS (by with_reducible assumption) ?_ | with_reducible refine st18 zS (by with_reducible assumption) ?_ | with_reducible refine st19 zS (by with_reducible assumption) ?_ | with_reducible refine st20 zS (by with_reducible assumption) ?_ | with_reducible refine st21 zS (by with_reducible assumption) ?_); clear zS; intro _ _ _))
local macro_rules | `(tactic| walk_at "z op") => `(tactic| ((with_reducible rename St _ _ _ _ _ _ _ _ => zS); (first | with_reducible refine kInt zS ?_ | with_reducible refine kStr zS ?_ | with_reducible refine addI zS ?_ | with_reducible refine modI zS (by decide) ?_ | with_reducible refine subI zS ?_ | with_reducible refine range1 zS ?_ | with_reducible refine findS zS ?_); clear zS; intros))
local macro_rules | `(tactic| walk_at "z new") => `(tactic| ((with_reducible rename St _ _ _ _ _ _ _ _ => zS); (first | ((with_reducible show wpAny _ _ (newTuple _) _ _ _); refine newT zS ?_ ?_; exact Nat.le_of_ble_eq_true rfl) | ((with_reducible show wpAny _ _ (newList _) _ _ _); refine newL zS ?_ ?_; exact Nat.le_of_ble_eq_true rfl)); clear zS; intro _ _ _))
local macro_rules | `(tactic| walk_at "zz") => `(tactic| first | walk_at "z ctl" | walk_at "z ld" | walk_at "z st" | walk_at "z op" | walk_at "z nm")
local macro_rules | `(tactic| walk_at "z") => `(tactic| first | with_reducible refine exC ?_ | walk_at "zz")
local macro_rules | `(tactic| walk_at "zn") => `(tactic| first | walk_at "zz" | walk_at "z new")

local macro_rules | `(tactic| walk_at "z nm") => `(tactic| ((with_reducible rename St _ _ _ _ _ _ _ _ => zS); (first | with_reducible refine ldLen zS (by with_reducible assumption) (by with_reducible assumption) (by decide) ?_ | with_reducible refine ldRange zS (by with_reducible assumption) (by with_reducible assumption) (by decide) ?_)))

def scrapsL : List Str := ["p;", "&", "a", "t;", ";", "mp;", "&am", "q", "#x2", "7;", "<", "'", "", "é"]
theorem scraps_len : ∀ x ∈ scrapsL, x.length ≤ 3 := by decide +kernel
theorem slice_len {x : Str} {a b : Int} (h0 : 0 ≤ a) (h1 : a ≤ b) : ((Txt.slice x (some a) (some b)).length : Int) ≤ b - a := by
  obtain ⟨m, rfl⟩ := Int.eq_ofNat_of_zero_le h0
  obtain ⟨n, rfl⟩ := Int.eq_ofNat_of_zero_le (Int.le_trans h0 h1)
  rw [len_tl, sl_ss (by omega), List.length_take]; omega
theorem codesAt_get {z : PHeap} {C : Addr} {cs : List (Str × Str)} (h : CodesAt z C cs) : ∃ (vs : List Value) (n : Nat), z C = some (listOf vs.toArray n) ∧ ∀ i, i < cs.length → ∃ t tk tk' c, vs[i]? = some (.ref t) ∧ cs[i]? = some c ∧ z t = some (tupOf #[.str c.1 tk, .str c.2 tk']) := by
  obtain ⟨vs, n, h1, h2, h3⟩ := h
  refine ⟨vs, n, h1, fun i hi => ?_⟩
  obtain ⟨v, hv⟩ : ∃ v, vs[i]? = some v := ⟨vs[i]'(by omega), List.getElem?_eq_getElem (by omega)⟩
  obtain ⟨c, e1, t, tk, tk', rfl, e2⟩ := h3 i v hv
  exact ⟨t, tk, tk', c, hv, e1, e2⟩

section
variable {w : World} {A : Around} {E : Value → Shared → Prop} {h₀ : Heap} {mg mb : Str → Option Value} {g : Shared} {z z' : PHeap} {L : Addr} {K Gs : List Str} {vals : List (Option Value)} {ms : List (Addr × Obj)} {s : Shared} {env : Env}

theorem dItem {value slice : Expr} {D : Addr} {vs : List Value} {ns : List Int} {k : Int} {u : Tok} {Q : Value → Shared → Prop} (S : St h₀ g z L K2 vals ms s) (hz : zList z D vs) (hD : Drawn vs ns) (h0 : 0 ≤ k) (h1 : k < 10) (h : ∀ d tk, 0 ≤ d → d < 443520 → Q (.int d tk) s)
    (hs : subscripted slice false (.ref D) (.int k u) = operate [.ref D, .int k u] (getItem (.ref D) (.int k u)) := by with_unfolding_all rfl) : wpAny (model P2 w) A (subscriptTail value slice (.ref D) (.int k u)) Q E s := by
  obtain ⟨d, tk, e1, e2⟩ := ints_get hD.1 (i := k.toNat) (by rw [hD.2.1]; omega)
  have := hD.2.2 d (List.mem_of_getElem? e2)
  exact itemZ (hz.at S) h0 (by omega) (by simpa using e1) (h d tk this.1 this.2) hs
theorem cItem {value slice : Expr} {C : Addr} {cs : List (Str × Str)} {k : Int} {u : Tok} {Q : Value → Shared → Prop} (S : St h₀ g z L K vals ms s) (hC : CodesAt z C cs) (h0 : 0 ≤ k) (h1 : k < cs.length) (hn : cs.length = 4) (h : ∀ t tk tk' c, c ∈ cs → z t = some (tupOf #[.str c.1 tk, .str c.2 tk']) → Q (.ref t) s)
    (hs : subscripted slice false (.ref C) (.int k u) = operate [.ref C, .int k u] (getItem (.ref C) (.int k u)) := by with_unfolding_all rfl) : wpAny (model P2 w) A (subscriptTail value slice (.ref C) (.int k u)) Q E s := by
  obtain ⟨cvs, nc, hzC, hget⟩ := codesAt_get hC
  obtain ⟨t, tk, tk', c, e1, e2, e3⟩ := hget k.toNat (by omega)
  exact itemZ (isL S hzC) h0 (by omega) (by simpa using e1) (h t tk tk' c (List.mem_of_getElem? e2) e3) hs

set_option maxHeartbeats 8000000 in
theorem seg_c {D sl c C : Addr} {oc : Obj} {vs : List Value} {ns : List Int} {cs : List (Str × Str)} {b : Bool} {x p y : Option Value} {Q : Flow → Shared → Prop} (G : G2 h₀ mg mb) (hh : A.handled = none) (O : EnvOk env L K2 Gs2)
    (hcl : env.kindOf (Str.ofString "codes") = some .cell) (hcc : env.cells.lookup (Str.ofString "codes") = some c) (hD : Drawn vs ns)
    (hz : zList z D vs) (hco : z c = some oc) (hoc : oc.data = .cell (some (.ref C))) (hC : CodesAt z C cs) (hcn : cs.length = 4) (hcs : ∀ c ∈ cs, c.1.length = 1 ∧ c.2 = wroteF b c.1)
    (S : St h₀ g z L K2 [some (.ref sl), some (.ref D), x, some (.bool b), p, y, none, none, none, none, none, none, none, none, none, none, none, none] [] s)
    (h : ∀ (z' : PHeap) (s' : Shared) (Dp Dt Dl : Addr) (p0 p1 : Str) (t0 t1 t2 t3 : Tok) (n0 n1 n2 : Nat) (y2 y3 y4 : Option Value), Le z z' → p0.length ≤ 9 → p1.length ≤ 9 → z' Dp = some (listOf [.str p0 t0, .str p1 t1].toArray n0) → z' Dt = some (listOf [.str (Str.ofString "") t2].toArray n1) → z' Dl = some (listOf [.str (Str.ofString "") t3].toArray n2) →
      St h₀ g z' L K2 [some (.ref sl), some (.ref D), x, some (.bool b), p, y, y2, y3, y4, some (.ref Dp), some (.ref Dt), some (.ref Dl), none, none, none, none, none, none] [] s' →
      wpAny (model P2 w) A (execs ((bodyOf P2 6).drop 12) env) Q E s') :
    wpAny (model P2 w) A (execs ((bodyOf P2 6).drop 6) env) Q E s := by
  refine exC ?_
  repeat walk_at "zz"
  refine ldCell O.kind hcl hcc (S.keep _ _ hco) hoc ?_
  repeat walk_at "zz"
  with_reducible rename St _ _ _ _ _ _ _ _ => S
  refine dItem S hz hD (by decide) (by decide) ?_
  intro d1 tkd1 hd1 hd1'
  repeat walk_at "zz"
  with_reducible rename St _ _ _ _ _ _ _ _ => S
  have hm1 := fmod_pos (a := d1) (b := 4) (by decide)
  refine cItem S hC hm1.1 (by rw [hcn]; exact hm1.2) hcn ?_
  intro T1 k1 k1' c1 hc1 hT1
  repeat walk_at "zz"
  with_reducible rename St _ _ _ _ _ _ _ _ => S
  refine itemT (isT S hT1) (by decide) (by decide) rfl ?_
  repeat walk_at "zz"
  with_reducible rename St _ _ _ _ _ _ _ _ => S
  refine ldCell O.kind hcl hcc (S.keep _ _ hco) hoc ?_
  repeat walk_at "zz"
  with_reducible rename St _ _ _ _ _ _ _ _ => S
  refine dItem S hz hD (by decide) (by decide) ?_
  intro d2 tkd2 hd2 hd2'
  repeat walk_at "zz"
  with_reducible rename St _ _ _ _ _ _ _ _ => S
  refine divI S (by decide) (PyProof.noPylong_small (by decide)) ?_
  clear S; intro q2 s S
  repeat walk_at "zz"
  with_reducible rename St _ _ _ _ _ _ _ _ => S
  have hm2 := fmod_pos (a := d2.fdiv 4) (b := 4) (by decide)
  refine cItem S hC hm2.1 (by rw [hcn]; exact hm2.2) hcn ?_
  intro T2 k2 k2' c2 hc2 hT2
  repeat walk_at "zz"
  with_reducible rename St _ _ _ _ _ _ _ _ => S
  refine itemT (isT S hT2) (by decide) (by decide) rfl ?_
  repeat walk_at "zz"
  with_reducible rename St _ _ _ _ _ _ _ _ => S
  have w1 := wrote_len b (hcs c1 hc1).1
  have w2 := wrote_len b (hcs c2 hc2).1
  rw [← (hcs c1 hc1).2] at w1
  rw [← (hcs c2 hc2).2] at w2
  refine addS S (by rw [sizeLine_eq]; omega) ?_
  clear S; intro t1 s S
  repeat walk_at "zz"
  with_reducible rename St _ _ _ _ _ _ _ _ => S
  refine ldCell O.kind hcl hcc (S.keep _ _ hco) hoc ?_
  repeat walk_at "zz"
  with_reducible rename St _ _ _ _ _ _ _ _ => S
  refine dItem S hz hD (by decide) (by decide) ?_
  intro d3 tkd3 hd3 hd3'
  repeat walk_at "zz"
  with_reducible rename St _ _ _ _ _ _ _ _ => S
  refine divI S (by decide) (PyProof.noPylong_small (by decide)) ?_
  clear S; intro q3 s S
  repeat walk_at "zz"
  with_reducible rename St _ _ _ _ _ _ _ _ => S
  have hm3 := fmod_pos (a := d3.fdiv 16) (b := 4) (by decide)
  refine cItem S hC hm3.1 (by rw [hcn]; exact hm3.2) hcn ?_
  intro T3 k3 k3' c3 hc3 hT3
  repeat walk_at "zz"
  with_reducible rename St _ _ _ _ _ _ _ _ => S
  refine itemT (isT S hT3) (by decide) (by decide) rfl ?_
  repeat walk_at "zz"
  with_reducible rename St _ _ _ _ _ _ _ _ => S
  have w3 := wrote_len b (hcs c3 hc3).1
  rw [← (hcs c3 hc3).2] at w3
  refine addS S (by rw [Str.length_append, sizeLine_eq]; omega) ?_
  clear S; intro t2 s S
  repeat walk_at "zz"
  with_reducible rename St _ _ _ _ _ _ _ _ => S
  have hr1 : 1 ≤ (c1.2 ++ c2.2 ++ c3.2).length := by rw [Str.length_append, Str.length_append]; omega
  have hr2 : (c1.2 ++ c2.2 ++ c3.2).length ≤ 18 := by rw [Str.length_append, Str.length_append]; omega
  generalize c1.2 ++ c2.2 ++ c3.2 = row at *
  refine exC ?_
  repeat walk_at "zz"
  with_reducible rename St _ _ _ _ _ _ _ _ => S
  refine dItem S hz hD (by decide) (by decide) ?_
  intro d6 tkd6 hd6 hd6'
  repeat walk_at "zz"
  with_reducible rename St _ _ _ _ _ _ _ _ => S
  refine lenS S (by omega) ?_
  clear S; intro t3 s S
  repeat walk_at "zz"
  with_reducible rename St _ _ _ _ _ _ _ _ => S
  refine modI S (by omega) ?_
  clear S; intro t4 s S
  have hm6 := fmod_pos (a := d6) (b := (row.length : Int)) (by omega)
  generalize d6.fmod (row.length : Int) = place at *
  repeat walk_at "zz"
  refine exC ?_
  repeat walk_at "zz"
  with_reducible rename St _ _ _ _ _ _ _ _ => S
  refine newT S ?hsz ?_
  case hsz => exact Nat.le_of_ble_eq_true rfl
  clear S; intro T s S
  obtain ⟨z1, le1, hzT, _, S⟩ := S.freeze
  have hz := hz.mono le1
  obtain ⟨svs, hsv, hzT⟩ : ∃ svs, StrsAre svs scrapsL ∧ z1 T = some (tupOf svs.toArray) :=
    ⟨_, .cons _ _ (.cons _ _ (.cons _ _ (.cons _ _ (.cons _ _ (.cons _ _ (.cons _ _ (.cons _ _ (.cons _ _ (.cons _ _ (.cons _ _ (.cons _ _ (.cons _ _ (.cons _ _ .nil))))))))))))), hzT⟩
  repeat walk_at "zz"
  refine exC ?_
  repeat walk_at "zz"
  with_reducible rename St _ _ _ _ _ _ _ _ => S
  refine dItem S hz hD (by decide) (by decide) ?_
  intro d7 tkd7 hd7 hd7'
  repeat walk_at "zz"
  with_reducible rename St _ _ _ _ _ _ _ _ => S
  have hm7 := fmod_pos (a := d7) (b := 9) (by decide)
  refine sliceSS S (by rw [sizeLine_eq]; omega) ?_
  clear S; intro t5 s S
  have hs1 := slice_len (x := row) (a := place) (b := place + 1 + d7.fmod 9) (by omega) (by omega)
  generalize Txt.slice row (some place) (some (place + 1 + d7.fmod 9)) = p0 at *
  repeat walk_at "zz"
  with_reducible rename St _ _ _ _ _ _ _ _ => S
  refine dItem S hz hD (by decide) (by decide) ?_
  intro d8 tkd8 hd8 hd8'
  repeat walk_at "zz"
  with_reducible rename St _ _ _ _ _ _ _ _ => S
  have hm8 := fmod_pos (a := d8) (b := 14) (by decide)
  obtain ⟨x8, tx8, hx8, hy8⟩ := strs_get hsv (i := ((d8).fmod 14).toNat) (by show _ < 14; omega)
  have hl8 := scraps_len x8 (List.mem_of_getElem? hy8)
  refine itemT (isT S hzT) hm8.1 (by omega) (by simpa using hx8) ?_
  repeat walk_at "zz"
  with_reducible rename St _ _ _ _ _ _ _ _ => S
  refine dItem S hz hD (by decide) (by decide) ?_
  intro d9 tkd9 hd9 hd9'
  repeat walk_at "zz"
  with_reducible rename St _ _ _ _ _ _ _ _ => S
  have hm9 := fmod_pos (a := d9 + 1) (b := 14) (by decide)
  obtain ⟨x9, tx9, hx9, hy9⟩ := strs_get hsv (i := ((d9 + 1).fmod 14).toNat) (by show _ < 14; omega)
  have hl9 := scraps_len x9 (List.mem_of_getElem? hy9)
  refine itemT (isT S hzT) hm9.1 (by omega) (by simpa using hx9) ?_
  repeat walk_at "zz"
  with_reducible rename St _ _ _ _ _ _ _ _ => S
  refine addS S (by rw [sizeLine_eq]; omega) ?_
  clear S; intro t6 s S
  repeat walk_at "zz"
  with_reducible rename St _ _ _ _ _ _ _ _ => S
  refine newL S ?hsz ?_
  case hsz => exact Nat.le_of_ble_eq_true rfl
  clear S; intro Dp s S
  obtain ⟨z2, le2, hzp, _, S⟩ := S.freeze
  repeat walk_at "zz"
  refine exC ?_
  repeat walk_at "zz"
  with_reducible rename St _ _ _ _ _ _ _ _ => S
  refine newL S ?hsz ?_
  case hsz => exact Nat.le_of_ble_eq_true rfl
  clear S; intro Dt s S
  obtain ⟨z3, le3, hzt, _, S⟩ := S.freeze
  repeat walk_at "zz"
  refine exC ?_
  repeat walk_at "zz"
  with_reducible rename St _ _ _ _ _ _ _ _ => S
  refine newL S ?hsz ?_
  case hsz => exact Nat.le_of_ble_eq_true rfl
  clear S; intro Dl s S
  obtain ⟨z4, le4, hzl, _, S⟩ := S.freeze
  repeat walk_at "zz"
  with_reducible rename St _ _ _ _ _ _ _ _ => S
  have h2 := h z4 _ Dp Dt Dl p0 (x8 ++ x9) t5 t6 _ _ _ _ _ _ _ _ (((le1.trans le2).trans le3).trans le4) (by omega) (by rw [Str.length_append]; omega) (le4 _ _ (le3 _ _ hzp)) (le4 _ _ hzt) hzl S
  exact h2
end
end Mine

namespace Mine
section
variable {M : Model} {prog : Program} {w : World} {A : Around} {E : Value → Shared → Prop} {h₀ : Heap} {g : Shared} {z z' : PHeap} {L : Addr} {K Gs : List Str} {vals : List (Option Value)} {ms : List (Addr × Obj)} {s : Shared} {env : Env}

abbrev Emitted (gens : List Comprehension) (elt : Expr) (scope : Scope) (pos : Pos) (d : Nat) (ipos : Pos) (target : Expr) (acc : Value) (cenv : Env) (emit : Sem Unit) : Prop :=
  ∀ it, compTurn (.ListComp elt gens scope pos) d it acc cenv = (standAt ipos >>= fun _ => pyNext it >>= fun r => match r with
      | none => pure (.done .next)
      | some v => letOwnedTupleGo target it v >>= fun _ => assign target cenv v >>= fun _ => emit >>= fun _ => again (.compLoop (.ListComp elt gens scope pos) d it acc cenv))

theorem emitted_one (elt target iter : Expr) (scope : Scope) (pos : Pos) (acc : Value) (cenv : Env) :
    Emitted [⟨target, iter, [], 0⟩] elt scope pos 0 iter.pos target acc cenv (eval elt cenv >>= fun x => call (.builtin "list.append") [acc, x] >>= fun _ => pure ()) := fun it => compTurn_list1 elt target iter scope pos it acc cenv
theorem emitted_in (elt t0 i0 t1 i1 : Expr) (scope : Scope) (pos : Pos) (acc : Value) (cenv : Env) :
    Emitted [⟨t0, i0, [], 0⟩, ⟨t1, i1, [], 0⟩] elt scope pos 1 i1.pos t1 acc cenv (eval elt cenv >>= fun x => call (.builtin "list.append") [acc, x] >>= fun _ => pure ()) := fun it => by rfl
theorem emitted_out (elt t0 i0 t1 i1 : Expr) (scope : Scope) (pos : Pos) (acc : Value) (cenv : Env) :
    Emitted [⟨t0, i0, [], 0⟩, ⟨t1, i1, [], 0⟩] elt scope pos 0 i0.pos t0 acc cenv
      (eval i1 cenv >>= fun x => standAt i1.pos >>= fun _ => foldedSetIterable i1 cenv x >>= fun x => holding [x] (pyIter x) >>= fun it => runOwn (.compStart (.ListComp elt [⟨t0, i0, [], 0⟩, ⟨t1, i1, [], 0⟩] scope pos) 1 it acc cenv) cenv >>= fun _ => pure ()) := fun it => by
  simp only [bind_assoc, pure_bind]
  rfl

theorem compStart_any {elt : Expr} {gens : List Comprehension} {scope : Scope} {pos : Pos} {d : Nat} {I l : Addr} {acc : Value} {i : Nat} {cenv : Env} {R : Result → Shared → Prop} (hg : ((clausesOf (.ListComp elt gens scope pos))[d]?).elim false (fun x => x.is_async != 0) = false)
    (hit : s.heap.IsListIter I l i) (h0 : codeAny (model prog w) A (.compLoop (.ListComp elt gens scope pos) d (.ref I) acc cenv) R s) : codeAny (model prog w) A (.compStart (.ListComp elt gens scope pos) d (.ref I) acc cenv) R s := by
  refine codeAny_of_tree ?_
  show wpAny _ _ ((compStart (.ListComp elt gens scope pos) d (.ref I) acc cenv).onRaise (fun x => do noteFrame x cenv; standAt theWindowsPlace)) _ _ s
  refine wpAny_notedAt ?_
  unfold compStart
  rw [hg]
  show wpAny _ _ (ask >>= _) _ _ s
  refine wpAny_bind (wpAny_askSetting (wpAny_ite ?_))
  split
  · first
      | exact wpAny_bind (wpAny_pure (wpAny_pure (And.intro rfl h0)))
      | exact wpAny_pure (And.intro rfl h0)
  · refine wpAny_bind (wpAny_rule ?_)
    have fin : wpAny (model prog w) (A.under (.compStart (.ListComp elt gens scope pos) d (.ref I) acc cenv)) (pyIter (.ref I) >>= fun it' => again (.compLoop (.ListComp elt gens scope pos) d it' acc cenv)) (fun fin s' => match fin with | .done f => R (.ok f) s' | .again c' => c'.quiet = true ∧ codeAny (model prog w) A c' R s')
        (notedBy (model prog w) (A.under (.compStart (.ListComp elt gens scope pos) d (.ref I) acc cenv)) cenv fun e s' => R (.error e) s') s :=
      wpAny_bind (wpAny_pyIter_listiter hit (wpAny_pure (And.intro rfl h0)))
    cases (clausesOf (Expr.ListComp elt gens scope pos))[d]? with
    | none => first | exact fin | exact wpAny_bind (wpAny_pure fin)
    | some c => first | exact wpAny_bind (wpAny_standAt fin) | exact wpAny_bind (wpAny_bind (wpAny_standAt fin))

theorem compL' {elt target : Expr} {gens : List Comprehension} {scope : Scope} {pos ipos : Pos} {d : Nat} {l I : Addr} {o : Obj} {vs : List Value} {n : Nat} {acc : Value} {cenv : Env} {emit : Sem Unit} {R : Result → Shared → Prop}
    (em : Emitted gens elt scope pos d ipos target acc cenv emit) (hg : ((clausesOf (.ListComp elt gens scope pos))[d]?).elim false (fun x => x.is_async != 0) = false)
    (S : St h₀ g z L K vals ((I, o) :: ms) s) (hoc : o.cls = .type "list_iterator") (hod : o.data = .fields #[.ref l, .int (0 : Nat) 0]) (hh : A.handled = none) (hz : z l = some (listOf vs.toArray n))
    (J : Nat → PHeap → List (Option Value) → List (Addr × Obj) → Prop) (h0 : J 0 z vals ms)
    (turn : ∀ (E' : Value → Shared → Prop) i v z' vals' o ms' s', vs[i]? = some v → Le z z' → J i z' vals' ms' → St h₀ g z' L K vals' ((I, o) :: ms') s' →
      wpAny (model prog w) A (assign target cenv v) (fun _ s₂ => wpAny (model prog w) A emit (fun _ s₃ => ∃ z'' vals'' ms'', Le z' z'' ∧ J (i + 1) z'' vals'' ms'' ∧ St h₀ g z'' L K vals'' ((I, o) :: ms'') s₃) E' s₂) E' s')
    (done : ∀ z' vals' ms' s', Le z z' → J vs.length z' vals' ms' → St h₀ g z' L K vals' ms' s' → R (.ok .next) s') :
    codeAny (model prog w) A (.compStart (.ListComp elt gens scope pos) d (.ref I) acc cenv) R s := by
  refine compStart_any hg (i := 0) ⟨_, (S.own _ (.head _)).1, hoc, hod⟩ ?_
  refine codeAny_loop rfl (fun k s' => ∃ (i : Nat) (z' : PHeap) (vals' : List (Option Value)) (ms' : List (Addr × Obj)) (o : Obj), St h₀ g z' L K vals' ((I, o) :: ms') s' ∧ o.cls = .type "list_iterator" ∧ o.data = .fields #[.ref l, .int i 0] ∧ Le z z' ∧ J i z' vals' ms' ∧ i ≤ vs.length ∧ k = vs.length + 1 - i) ?_
    (vs.length + 1) ⟨0, z, vals, ms, _, S, hoc, hod, Le.refl z, h0, Nat.zero_le _, rfl⟩
  rintro k s' ⟨i, z', vals', ms', o, S', hc, hd, le, hJ, hi, rfl⟩
  show wpAny _ A ((compTurn (.ListComp elt gens scope pos) d (.ref I) acc cenv).onRaise (fun x => do noteFrame x cenv; theTreesLotGoes x)) _ _ s'
  refine wpAny_noted ?_
  rw [em]
  have hit : s'.heap.IsListIter I l i := ⟨o, (S'.own _ (.head _)).1, hc, hd⟩
  refine wpAny_bind (wpAny_standAt (wpAny_bind ?_))
  cases hv : vs[i]? with
  | none =>
    have hsz : i = vs.length := Nat.le_antisymm hi (by simpa using hv)
    refine wpAny_pyNext_list_end hh hit (isL S' (le _ _ hz)) (by simpa using hv) fun h₁ he₁ => wpAny_pure ?_
    exact done z' vals' ms' _ le (hsz ▸ hJ) (S'.ext he₁)
  | some v =>
    have hlt : i < vs.length := (List.getElem?_eq_some_iff.mp hv).1
    refine wpAny_pyNext_list_item hit (isL S' (le _ _ hz)) (by simpa using hv) fun h₁ hit₁ hs₁ => ?_
    obtain ⟨o', ho', hc', hd'⟩ := hit₁
    have S₁ := S'.upd (pre := []) hs₁ ho'
    refine wpAny_bind (letOwned_go (S₁.own _ (.head _)).1 hc' hd' (by decide) ?_)
    refine wpAny_bind (wpAny_mono (turn _ i v z' vals' o' ms' _ hv le hJ S₁) (fun _ s₂ h₂ => wpAny_bind (wpAny_mono h₂ (fun f s₃ h₃ => wpAny_pure ?_) fun _ _ e => e)) fun _ _ e => e)
    obtain ⟨z'', vals'', ms'', le', hJ', S₃⟩ := h₃
    exact ⟨rfl, vs.length + 1 - (i + 1), by omega, i + 1, z'', vals'', ms'', o', S₃, hc', hd', le.trans le', hJ', hlt, rfl⟩

theorem iterOf {l : Addr} {vs : List Value} {n : Nat} {Q : Value → Shared → Prop} (S : St h₀ g z L K vals ms s) (hz : z l = some (listOf vs.toArray n))
    (h : ∀ I o s', o.cls = .type "list_iterator" → o.data = .fields #[.ref l, .int (0 : Nat) 0] → St h₀ g z L K vals ((I, o) :: ms) s' → Q (.ref I) s') : wpAny (model prog w) A (pyIter (.ref l)) Q E s :=
  wpAny_pyIter_list (isL S hz) (h _ _ _ rfl rfl (S.alloc rfl))

/-- from one frame's names to another's -/
theorem St.switch {C : Addr} {oL : Obj} {K' : List Str} {vals' : List (Option Value)} (S : St h₀ g z C K' vals' ((L, oL) :: ms) s) (hN : ∀ h : Heap, h.get? L = some oL → h.Ns L (mOf K vals)) :
    ∃ oC, St h₀ g z L K vals ((C, oC) :: ms) s ∧ ∀ h : Heap, h.get? C = some oC → h.Ns C (mOf K' vals') := by
  obtain ⟨oC, es, ep, hC, r⟩ := S.ns
  have PL := S.own (L, oL) (.head _)
  refine ⟨oC, ⟨S.sh, hN _ PL.1, S.keep, PL.2.2.1, PL.2.2.2, fun p hp => ?_, ?_, S.zg, S.sz, S.h0⟩, fun h e => ⟨oC, es, ep, e, r⟩⟩
  · rcases List.mem_cons.mp hp with rfl | hp
    · exact ⟨hC, Ne.symm PL.2.1, S.zL, S.gL⟩
    · have P := S.own p (.tail _ hp)
      exact ⟨P.1, fun q => (List.nodup_cons.mp S.nd).1 (List.mem_map.mpr ⟨p, hp, q⟩), P.2.2⟩
  · rw [List.map_cons, List.nodup_cons]
    refine ⟨fun hm => ?_, (List.nodup_cons.mp S.nd).2⟩
    obtain ⟨p, hp, q⟩ := List.mem_map.mp hm
    exact (S.own p (.tail _ hp)).2.1 q
theorem St.nsOf (S : St h₀ g z L K vals ms s) : ∃ oL, s.heap.get? L = some oL ∧ ∀ h : Heap, h.get? L = some oL → h.Ns L (mOf K vals) := by
  obtain ⟨oL, es, ep, hL, r⟩ := S.ns
  exact ⟨oL, hL, fun h e => ⟨oL, es, ep, e, r⟩⟩

theorem newEnv_in {scope : Scope} {cl : List (Str × Addr)} {K' : List Str} {k : Nat} {Q : Env → Shared → Prop} (S : St h₀ g z L K vals ms s) (hcell : ∀ y ∈ scope.names, y.2 ≠ .cell) (hkind : scope.kind = .function)
    (h : ∀ C oL s', (∀ h : Heap, h.get? L = some oL → h.Ns L (mOf K vals)) → St h₀ g z C K' (List.replicate k none) ((L, oL) :: ms) s' → Q (newEnv scope C env.globals cl env.qual none .none (some env) 0) s') :
    wpAny M A (newFunctionEnv scope env.globals cl [] env.qual none .none (some env)) Q E s := by
  refine wpAny_newFunctionEnv hcell (by intro y hy; simp at hy) (fun h₁ hns hsb => ?_) hkind
  have hfun : (fun x => List.lookup x ([] : List (Str × Value)).reverse) = mOf K' (List.replicate k none) := by
    funext y; rw [mOf_none]; rfl
  rw [hfun] at hns
  obtain ⟨oC, es, ep, hC, r⟩ := id hns
  have S1 := S.alloc (o := { cls := .type "dict", data := .dict #[] }) rfl
  have S2 := (S1.upd (pre := []) hsb hC).tok (s.toks + ([] : List (Str × Value)).length)
  obtain ⟨oL, S3, hN⟩ := S2.switch (K := K') (vals := List.replicate k none) fun h e => ⟨oC, es, ep, e, r⟩
  exact h _ oL _ hN S3

theorem compAssign {elt t0 iter : Expr} {gens rest : List Comprehension} {scope : Scope} {pos spos py ipos : Pos} {y : Str} {iy k : Nat} {l : Addr} {vs : List Value} {n : Nat} {cl : List (Str × Addr)} {K' : List Str} {emit : Addr → Addr → Sem Unit} {Q : Flow → Shared → Prop}
    (S : St h₀ g z L K vals ms s) (O : EnvOk env L K Gs) (hh : A.handled = none)
    (hgs : gens = ⟨t0, iter, [], 0⟩ :: rest)
    (hsw : swapsWith (.ListComp elt gens scope pos) (some (.Name y py)) spos.line env = pure true)
    (hs : ∀ x, foldedSetIterable iter env x = pure x) (hclos : closureFor scope env = pure cl) (hcell : ∀ y ∈ scope.names, y.2 ≠ .cell) (hkind : scope.kind = .function)
    (hnames : ∀ x ∈ scope.names, x.2 = .local → scope.names.lookup x.1 = some .local)
    (hK : K[iy]? = some y) (hiy : iy < vals.length)
    (hiter : ∀ Q', Q' (.ref l) s → wpAny (model prog w) A (eval iter env) Q' E s)
    (hz : z l = some (listOf vs.toArray n))
    (em : ∀ D C, Emitted gens elt scope pos 0 ipos t0 (.ref D) (compEnvC scope cl C env) (emit D C))
    (J : Nat → PHeap → List (Option Value) → List Value → Prop) (h0 : J 0 z (List.replicate k none) [])
    (turn : ∀ (E' : Value → Shared → Prop) C D oL i v z' vals' I o acc na s', vs[i]? = some v → Le z z' → J i z' vals' acc → St h₀ g z' C K' vals' ((I, o) :: (D, listOf acc.toArray na) :: (L, oL) :: ms) s' →
      wpAny (model prog w) A (assign t0 (compEnvC scope cl C env) v) (fun _ s₂ => wpAny (model prog w) A (emit D C) (fun _ s₃ => ∃ z'' vals'' acc' na', Le z' z'' ∧ J (i + 1) z'' vals'' acc' ∧ St h₀ g z'' C K' vals'' ((I, o) :: (D, listOf acc'.toArray na') :: (L, oL) :: ms) s₃) E' s₂) E' s')
    (done : ∀ z' D acc na vals' s', Le z z' → J vs.length z' vals' acc → St h₀ g z' L K (vals.set iy (some (.ref D))) ((D, listOf acc.toArray na) :: ms) s' → Q .next s') :
    wpAny (model prog w) A (exec (.Assign [.Name y py] (.ListComp elt gens scope pos) spos) env) Q E s := by
  subst hgs
  rw [exec_Assign_Name_used _ _ _ _ hsw]
  refine wpAny_bind (wpAny_standAt (wpAny_bind ?_))
  show wpAny _ A (do let _ ← comprehension (.ListComp elt (⟨t0, iter, [], 0⟩ :: rest) scope pos) scope env _ (newList []) false (eval iter env) (some (assign (.Name y py) env))) _ _ s
  refine wpAny_bind (wpAny_mono (wpAny_comprehension_free (use := some (assign (.Name y py) env)) (Q := fun _ s' => Q .next s') rfl hs hclos hkind hnames
    (hiter _ ?_)) (fun _ s' hq => wpAny_pure (wpAny_pure hq)) fun _ _ e => e)
  refine iterOf S hz fun I o s₁ hoc hod S₁ => ?_
  refine newL S₁ (Nat.zero_le _) fun D s₂ S₂ => ?_
  refine newEnv_in (K' := K') (k := k) S₂ hcell hkind fun C oL s₃ hN S₃ => ?_
  have S₄ : St h₀ g z C K' (List.replicate k none) ((I, o) :: (D, listOf ([] : List Value).toArray 0) :: (L, oL) :: ms) s₃ := S₃.perm ((List.Perm.swap _ _ _).trans (((List.Perm.swap _ _ _).cons _).trans (List.Perm.swap _ _ _)))
  show codeAny (model prog w) A (.compStart (.ListComp elt (⟨t0, iter, [], 0⟩ :: rest) scope pos) 0 (.ref I) (.ref D) (compEnvC scope cl C env)) _ s₃
  refine compL' (em D C) rfl S₄ hoc hod hh hz (fun i z' vals' ms' => ∃ acc na, J i z' vals' acc ∧ ms' = (D, listOf acc.toArray na) :: (L, oL) :: ms) ⟨[], 0, h0, rfl⟩ ?_ ?_
  · intro E' i v z' vals' o' ms' s' hv le hJ S'
    obtain ⟨acc, na, hJ, rfl⟩ := hJ
    refine wpAny_mono (turn E' C D oL i v z' vals' I o' acc na s' hv le hJ S') (fun _ s₄ h₄ => wpAny_mono h₄ (fun _ s₅ h₅ => ?_) fun _ _ e => e) fun _ _ e => e
    obtain ⟨z'', vals'', acc', na', le', hJ', S''⟩ := h₅
    exact ⟨z'', vals'', _, le', ⟨acc', na', hJ', rfl⟩, S''⟩
  · intro z' vals' ms' s' le hJ S'
    obtain ⟨acc, na, hJ, rfl⟩ := hJ
    show wpAny _ A (assign (.Name y py) env (.ref D)) _ _ _
    obtain ⟨oC, S5, hC⟩ := S'.swap.switch hN
    refine wpAny_assign_Name (stAt S5 O hK hiy fun s'' _ S6 => ?_)
    refine ⟨_, hC _ (S6.own _ (.head _)).1, fun h' hs' => ?_⟩
    exact done z' D acc na vals' _ le hJ (S6.ext hs'.extBut)
end
end Mine

namespace Mine
local macro_rules | `(tactic| walk_at "z ctl") => `(tactic| first | with_reducible refine iteT ?_ | with_reducible refine iteF ?_ | with_reducible refine nqN ?_ | with_reducible refine nqR ?_ | with_reducible refine nqB ?_ | with_reducible refine tqN ?_ | with_reducible refine tqB ?_ | with_reducible refine tqR ?_ | with_reducible refine rqR ?_ | with_reducible refine wpAny_execs_nil ?_ | with_reducible refine wpAny_If ?_ | with_reducible refine wpAny_Return_some ?_ | with_reducible refine wpAny_BinOp ?_ | with_reducible refine Subscript_ ?_ | with_reducible refine wpAny_Break ?_ | with_reducible refine Tuple_ ?_ | with_reducible refine List_ ?_ | with_reducible refine spliced_none ?_ | with_reducible refine callWith_method0 ?_ | with_reducible refine isTrue_and_nil ?_ | with_reducible refine isTrue_or_nil ?_ | with_reducible refine isTrue_and ?_ | with_reducible refine isTrue_or ?_ | with_reducible refine isTrue_not ?_ | with_reducible refine BoolOp_one ?_ | with_reducible refine BoolOp_and ?_ | with_reducible refine BoolOp_or ?_ | with_reducible refine wpAny_truthy_bool ?_ | with_reducible refine Constant_bool ?_ | with_reducible refine Constant_none ?_ | with_reducible refine evalPart_none_step ?_ | with_reducible refine evalPart_some_step ?_ | with_reducible refine wpAny_Slice ?_ | with_reducible refine GM.startswith ?_ | with_reducible refine GM.replace ?_ | with_reducible refine GM.find ?_ | with_reducible refine GM.split ?_ | with_reducible refine SC.startswith ?_ | with_reducible refine eq_str ?_ | with_reducible refine in_str ?_ | with_reducible refine ne_bool ?_ | with_reducible refine eq_int ?_ | with_reducible refine lt_int ?_ | with_reducible refine gt_int ?_ | ((with_reducible show wpAny _ _ (exec (Stmt.Assign [Expr.Name _ _] _ _) _) _ _ _); refine wpAny_Assign_Name ?_) | ((with_reducible show wpAny _ _ (exec (Stmt.Assign [Expr.Subscript _ _ _] _ _) _) _ _ _); refine wpAny_Assign_Subscript ?_) | ((with_reducible show wpAny _ _ (exec (Stmt.Expr _ _) _) _ _ _); refine exprZ (by assumption) ?_) | ((with_reducible show wpAny _ _ (exec (Stmt.For _ _ _ _ _) _) _ _ _); refine wpAny_For ?_) | ((with_reducible show wpAny _ _ (eval (Expr.Compare _ [_] [_] _) _) _ _ _); refine wpAny_Compare1 ?_) | ((with_reducible show wpAny _ _ (PySem.isTrue (Expr.Compare _ [_] [_] _) _ _) _ _ _); refine wpAny_isTrue_Compare1 ?_) | ((with_reducible show wpAny _ _ (PySem.isTrue (Expr.Name _ _) _ _) _ _ _); refine isTrue_plain ?_) | ((with_reducible show wpAny _ _ (PySem.isTrue (Expr.Call _ _ _ _) _ _) _ _ _); refine isTrue_plain ?_) | ((with_reducible show wpAny _ _ (eval (Expr.Call (Expr.Attribute _ _ _) _ [] _) _) _ _ _); refine MethodCall_ ?_) | ((with_reducible show wpAny _ _ (eval (Expr.Call (Expr.Name _ _) _ [] _) _) _ _ _); refine Call_ ?_) | ((with_reducible show wpAny _ _ (spliced (backTo _ (starEach (_ :: _) _))) _ _ _); refine spliced_more ?_) | ((with_reducible show wpAny _ _ (callWith _ (Value.builtin _) [] (backTo _ (starEach (_ :: _) _)) []) _ _ _); refine PyProof.Rows.callWith_builtin1 ?_) | ((with_reducible show wpAny _ _ (callWith _ (Value.builtin _) [_] (backTo _ (starEach (_ :: _) _)) []) _ _ _); refine cwM1 ?_) | ((with_reducible show wpAny _ _ (callWith _ (Value.type _) [] (backTo _ (starEach (_ :: _) _)) []) _ _ _); refine PyProof.Rows.callWith_type1 ?_))
local macro_rules | `(tactic| walk_at "z ld") => `(tactic| ((with_reducible rename St _ _ _ _ _ _ _ _ => zS); (with_reducible show wpAny _ _ (eval (Expr.Name _ _) _) _ _ _); first | with_reducible refine ld0 zS (by with_reducible assumption) ?_ | with_reducible refine ld1 zS (by with_reducible assumption) ?_ | with_reducible refine ld2 zS (by with_reducible assumption) ?_ | with_reducible refine ld3 zS (by with_reducible assumption) ?_ | with_reducible refine ld4 zS (by with_reducible assumption) ?_ | with_reducible refine ld5 zS (by with_reducible assumption) ?_ | with_reducible refine ld6 zS (by with_reducible assumption) ?_ | with_reducible refine ld7 zS (by with_reducible assumption) ?_ | with_reducible refine ld8 zS (by with_reducible assumption) ?_ | with_reducible refine ld9 zS (by with_reducible assumption) ?_ | with_reducible refine ld10 zS (by with_reducible assumption) ?_ | with_reducible refine ld11 zS (by with_reducible assumption) ?_ | with_reducible refine ld12 zS (by with_reducible assumption) ?_ | with_reducible refine ld13 zS (by with_reducible assumption) ?_ | with_reducible refine ld14 zS (by with_reducible assumption) ?_ | with_reducible refine ld15 zS (by with_reducible assumption) ?_ | with_reducible refine ld16 zS (by with_reducible assumption) ?_ | with_reducible refine ld17 zS (by with_reducible assumption) ?_ | with_reducible refine ld18 zS (by with_reducible assumption) ?_ | with_reducible refine ld19 zS (by with_reducible assumption) ?_ | with_reducible refine ld20 zS (by with_reducible assumption) ?_ | with_reducible refine ld21 zS (by with_reducible assumption) ?_))
local macro_rules | `(tactic| walk_at "z st") => `(tactic| ((with_reducible rename St _ _ _ _ _ _ _ _ => zS); (with_reducible show wpAny _ _ (storeName _ _ _) _ _ _); (first | with_reducible refine st0 zS (by with_reducible assumption) ?_ | with_reducible refine st1 zS (by with_reducible assumption) ?_ | with_reducible refine st2 zS (by with_reducible assumption) ?_ | with_reducible refine st3 zS (by with_reducible assumption) ?_ | with_reducible refine st4 zS (by with_reducible assumption) ?_ | with_reducible refine st5 zS (by with_reducible assumption) ?_ | with_reducible refine st6 zS (by with_reducible assumption) ?_ | with_reducible refine st7 zS (by with_reducible assumption) ?_ | with_reducible refine st8 zS (by with_reducible assumption) ?_ | with_reducible refine st9 zS (by with_reducible assumption) ?_ | with_reducible refine st10 zS (by with_reducible assumption) ?_ | with_reducible refine st11 zS (by with_reducible assumption) ?_ | with_reducible refine st12 zS (by with_reducible assumption) ?_ | with_reducible refine st13 zS (by with_reducible assumption) ?_ | with_reducible refine st14 zS (by with_reducible assumption) ?_ | with_reducible refine st15 zS (by with_reducible assumption) ?_ | with_reducible refine st16 zS (by with_reducible assumption) ?_ | with_reducible refine st17 zS (by with_reducible assumption) ?_ | with_reducible refine st18 zS (by with_reducible assumption) ?_ | with_reducible refine st19 zS (by with_reducible assumption) ?_ | with_reducible refine st20 zS (by with_reducible assumption) ?_ | with_reducible refine st21 zS (by with_reducible assumption) ?_); clear zS; intro _ _ _))
local macro_rules | `(tactic| walk_at "z op") => `(tactic| ((with_reducible rename St _ _ _ _ _ _ _ _ => zS); (first | with_reducible refine kInt zS ?_ | with_reducible refine kStr zS ?_ | with_reducible refine addI zS ?_ | with_reducible refine modI zS (by decide) ?_ | with_reducible refine subI zS ?_ | with_reducible refine range1 zS ?_ | with_reducible refine findS zS ?_); clear zS; intros))
local macro_rules | `(tactic| walk_at "z new") => `(tactic| ((with_reducible rename St _ _ _ _ _ _ _ _ => zS); (first | ((with_reducible show wpAny _ _ (newTuple _) _ _ _); refine newT zS ?_ ?_; exact Nat.le_of_ble_eq_true rfl) | ((with_reducible show wpAny _ _ (newList _) _ _ _); refine newL zS ?_ ?_; exact Nat.le_of_ble_eq_true rfl)); clear zS; intro _ _ _))
local macro_rules | `(tactic| walk_at "zz") => `(tactic| first | walk_at "z ctl" | walk_at "z ld" | walk_at "z st" | walk_at "z op" | walk_at "z nm")
local macro_rules | `(tactic| walk_at "z") => `(tactic| first | with_reducible refine exC ?_ | walk_at "zz")
local macro_rules | `(tactic| walk_at "zn") => `(tactic| first | walk_at "zz" | walk_at "z new")

local macro_rules | `(tactic| walk_at "z nm") => `(tactic| ((with_reducible rename St _ _ _ _ _ _ _ _ => zS); (first | with_reducible refine ldLen zS (by with_reducible assumption) (by with_reducible assumption) (by decide) ?_ | with_reducible refine ldRange zS (by with_reducible assumption) (by with_reducible assumption) (by decide) ?_)))

theorem lookup_relabel_cell {env : Env} (hk : env.scope.kind = .function) : ∀ {names : List (Str × NameKind)} {x : Str}, env.kindOf x = some .cell → names.lookup x = some .free →
    (names.map fun (n, k) => if (k == NameKind.free && env.scope.kind == .function && env.kindOf n == some .cell) then (n, NameKind.cell) else (n, k)).lookup x = some .cell
  | [], _, _, h => by simp at h
  | (n, k) :: r, x, hx, h => by
    have ih := lookup_relabel_cell hk (names := r) (x := x) hx
    show List.lookup x ((if (k == NameKind.free && env.scope.kind == .function && env.kindOf n == some .cell) = true then (n, NameKind.cell) else (n, k)) :: _) = _
    cases q : x == n with
    | true =>
      simp only [List.lookup_cons, q] at h
      cases h
      have e := eq_of_beq q
      subst e
      rw [hk, hx]
      simp [List.lookup_cons]
    | false =>
      simp only [List.lookup_cons, q] at h
      split <;> simp only [List.lookup_cons, q] <;> exact ih h
theorem lookup_relabel_glob {env : Env} : ∀ {names : List (Str × NameKind)} {x : Str}, names.lookup x = some .globalImplicit →
    (names.map fun (n, k) => if (k == NameKind.free && env.scope.kind == .function && env.kindOf n == some .cell) then (n, NameKind.cell) else (n, k)).lookup x = some .globalImplicit
  | [], _, h => by simp at h
  | (n, k) :: r, x, h => by
    have ih := lookup_relabel_glob (env := env) (names := r) (x := x)
    show List.lookup x ((if (k == NameKind.free && env.scope.kind == .function && env.kindOf n == some .cell) = true then (n, NameKind.cell) else (n, k)) :: _) = _
    cases q : x == n with
    | true =>
      simp only [List.lookup_cons, q] at h
      cases h
      simp [List.lookup_cons, q]
    | false =>
      simp only [List.lookup_cons, q] at h
      split <;> simp only [List.lookup_cons, q] <;> exact ih h

theorem compOk {env : Env} {L C c : Addr} {K Gs K' Gs' : List Str} {scope : Scope} (O : EnvOk env L K Gs) (hkind : scope.kind = .function) (hK : ∀ x ∈ K', scope.names.lookup x = some .local) (hG : ∀ x ∈ Gs', scope.names.lookup x = some .globalImplicit)
    (nd : K'.Nodup) (nb : ("__debug__" : Str) ∉ K') (ng : ("__debug__" : Str) ∉ Gs') : EnvOk (compEnvC scope [(Str.ofString "codes", c)] C env) C K' Gs' :=
  ⟨hkind, rfl, O.glob, O.blt, fun x hx => lookup_relabel_local (hK x hx), fun x hx => lookup_relabel_glob (hG x hx), nd, nb, ng⟩
theorem comp_cell {env : Env} {L C c : Addr} {K Gs : List Str} {scope : Scope} (O : EnvOk env L K Gs) (hcl : env.kindOf (Str.ofString "codes") = some .cell) (h : scope.names.lookup (Str.ofString "codes") = some .free) :
    (compEnvC scope [(Str.ofString "codes", c)] C env).kindOf (Str.ofString "codes") = some .cell := lookup_relabel_cell O.kind hcl h
theorem swaps_yes {env : Env} {L : Addr} {K Gs : List Str} {elt : Expr} {gens : List Comprehension} {scope : Scope} {pos py : Pos} {line : Nat} {y : Str} (O : EnvOk env L K Gs) (hy : y ∈ K) (hl : (py.line == pos.line) = true)
    (hn : (scope.names.any fun (n, k) => n == y && (k == .local || k == .cell)) = false) : swapsWith (.ListComp elt gens scope pos) (some (.Name y py)) line env = pure true := by
  show (pure _ : Sem Bool) = pure true
  congr 1
  have hb : (env.blockKind == ScopeKind.function) = true := by
    unfold Env.blockKind
    rw [O.kind]; rfl
  have hk : (env.kindOf y == some NameKind.local) = true := by rw [O.kl y hy]; rfl
  show (env.blockKind == .function && env.kindOf y == some .local && py.line == pos.line && !(scope.names.any fun (n, k) => n == y && (k == .local || k == .cell))) = true
  rw [hb, hk, hl, hn]; rfl

def TextOf (cs : List (Str × Str)) (k : Nat) (t : Str) : Prop := ∃ l : List (Str × Str), (∀ c ∈ l, c ∈ cs) ∧ l.length ≤ k ∧ tl t = l.flatMap fun c => tl c.1
theorem TextOf.len {cs : List (Str × Str)} {k : Nat} {t : Str} (h : TextOf cs k t) (h1 : ∀ c ∈ cs, c.1.length = 1) : t.length ≤ k := by
  obtain ⟨l, h2, h3, h4⟩ := h
  rw [len_tl, h4]
  have := flat_len (fun c : Str × Str => tl c.1) 1 l fun c hc => by rw [← len_tl, h1 c (h2 c hc)]; exact Nat.le_refl _
  omega
theorem TextOf.snoc {cs : List (Str × Str)} {k : Nat} {t : Str} {c : Str × Str} (h : TextOf cs k t) (hc : c ∈ cs) : TextOf cs (k + 1) (t ++ c.1) := by
  obtain ⟨l, h2, h3, h4⟩ := h
  refine ⟨l ++ [c], fun d hd => ?_, by simp; omega, by rw [tl_append, h4]; simp⟩
  rcases List.mem_append.mp hd with hd | hd
  · exact h2 d hd
  · simp at hd; subst hd; exact hc

section
variable {w : World} {A : Around} {E : Value → Shared → Prop} {h₀ : Heap} {mg mb : Str → Option Value} {g : Shared} {z z' : PHeap} {L : Addr} {K Gs : List Str} {vals : List (Option Value)} {ms : List (Addr × Obj)} {s : Shared} {env : Env}

theorem asgComp {x : Str} {py : Pos} {v : Value} {v0 : Option Value} {env' : Env} {C : Addr} {Kr : List Str} {vr : List (Option Value)} {Q : Unit → Shared → Prop} (S : St h₀ g z C (x :: Kr) (v0 :: vr) ms s) (O' : EnvOk env' C (x :: Kr) Gs)
    (h : EnvOk env' C (x :: Kr) Gs → ∀ s', St h₀ g z C (x :: Kr) (some v :: vr) ms s' → Q () s') : wpAny (model P2 w) A (assign (.Name x py) env' v) Q E s :=
  wpAny_assign_Name (st0 S O' fun s' _ S' => h O' s' S')

set_option maxHeartbeats 8000000 in
theorem seg_d {D sl c C Dp Dt Dl : Addr} {oc : Obj} {cs : List (Str × Str)} {b : Bool} {x p y y2 y3 y4 : Option Value} {t2 t3 : Tok} {n1 n2 : Nat} {Q : Flow → Shared → Prop} (G : G2 h₀ mg mb) (hh : A.handled = none) (O : EnvOk env L K2 Gs2)
    (hcl : env.kindOf (Str.ofString "codes") = some .cell) (hcc : env.cells.lookup (Str.ofString "codes") = some c)
    (hco : z c = some oc) (hoc : oc.data = .cell (some (.ref C))) (hC : CodesAt z C cs) (hcn : cs.length = 4) (hcs : ∀ c ∈ cs, c.1.length = 1 ∧ c.2 = wroteF b c.1)
    (hzt : z Dt = some (listOf [.str (Str.ofString "") t2].toArray n1)) (hzl : z Dl = some (listOf [.str (Str.ofString "") t3].toArray n2))
    (S : St h₀ g z L K2 [some (.ref sl), some (.ref D), x, some (.bool b), p, y, y2, y3, y4, some (.ref Dp), some (.ref Dt), some (.ref Dl), none, none, none, none, none, none] [] s)
    (h : ∀ (z' : PHeap) (s' : Shared) (Dt : Addr) (tvs : List Value) (ts : List Str) (n1 : Nat) (y5 y6 : Option Value), Le z z' → StrsAre tvs ts → ts.length ≤ 196 → (∀ t ∈ ts, TextOf cs 3 t) → z' Dt = some (listOf tvs.toArray n1) →
      St h₀ g z' L K2 [some (.ref sl), some (.ref D), x, some (.bool b), p, y, y2, y3, y4, some (.ref Dp), some (.ref Dt), y5, y6, none, none, none, none, none] [] s' →
      wpAny (model P2 w) A (execs ((bodyOf P2 6).drop 13) env) Q E s') :
    wpAny (model P2 w) A (execs ((bodyOf P2 6).drop 12) env) Q E s := by
  refine exC ?_
  repeat walk_at "zz"
  with_reducible rename St _ _ _ _ _ _ _ _ => S
  refine forR (n := 3) S hh (by decide) (fun i z' vals' ms' => ∃ Dt Dl tvs ts n1 lvs ls n2 y6, StrsAre tvs ts ∧ ts.length ≤ 65 * i + 1 ∧ (∀ t ∈ ts, TextOf cs i t) ∧ z' Dt = some (listOf tvs.toArray n1) ∧ StrsAre lvs ls ∧ ls.length ≤ 4 ^ i ∧ (∀ t ∈ ls, TextOf cs i t) ∧ z' Dl = some (listOf lvs.toArray n2) ∧
      vals' = [some (.ref sl), some (.ref D), x, some (.bool b), p, y, y2, y3, y4, some (.ref Dp), some (.ref Dt), some (.ref Dl), y6, none, none, none, none, none] ∧ ms' = []) ?_ ?_ ?_
  · have h0 : TextOf cs 0 (Str.ofString "") := ⟨[], fun c hc => by simp at hc, Nat.le_refl _, by decide +kernel⟩
    refine ⟨Dt, Dl, _, [Str.ofString ""], n1, _, [Str.ofString ""], n2, none, .cons _ _ .nil, by simp, ?_, hzt, .cons _ _ .nil, by simp, ?_, hzl, rfl, rfl⟩
    · intro t ht; simp at ht; subst ht; exact h0
    · intro t ht; simp at ht; subst ht; exact h0
  · intro E' i tk z₁ vals' I o ms' s hi' le hJ S
    obtain ⟨Dt, Dl, tvs, ts, n1, lvs, ls, n2, y6, hts, htn, htx, hzt, hls, hln, hlx, hzl, rfl, rfl⟩ := hJ
    refine wpAny_assign_Name ?_
    repeat walk_at "zz"
    refine exC ?_
    with_reducible rename St _ _ _ _ _ _ _ _ => S
    refine compAssign (K' := [Str.ofString "text", Str.ofString "sign", Str.ofString "wrote"]) (k := 3) (iy := 11) (cl := [(Str.ofString "codes", c)]) S O hh rfl ?hsw (fun _ => rfl) ?hclos ?hcell rfl ?hnames rfl ?hiy ?hiter hzl (fun D C => emitted_out _ _ _ _ _ _ _ _ _)
      (fun j z' vals' acc => ∃ x1 x2 x3 axs, vals' = [x1, x2, x3] ∧ StrsAre acc axs ∧ (∀ t ∈ axs, TextOf cs (i + 1) t) ∧ axs.length ≤ j * 4) ?h0 ?turn ?done
    case hsw => exact swaps_yes O (by decide +kernel) (by decide +kernel) (by decide +kernel)
    case hclos =>
      unfold closureFor
      simp [cellOf, hcc]
    case hcell => decide +kernel
    case hnames => decide +kernel
    case hiy => exact Nat.le_of_ble_eq_true rfl
    case hiter => 
      intro Q' hq
      repeat walk_at "zz"
      exact hq
    case h0 => exact ⟨_, _, _, [], rfl, .nil, fun t ht => by simp at ht, by simp⟩
    case turn =>
      clear S
      intro E'' C' D' oL j v z₂ vals'' I₂ o₂ acc na s' hv le₂ hJ S
      obtain ⟨x1, x2, x3, axs, rfl, hax, hat, han⟩ := hJ
      obtain ⟨u0, tk0, rfl, ht0⟩ := StrsAre.at hls hv
      refine asgComp S (compOk O rfl (by decide +kernel) (Gs' := []) (by decide +kernel) (by decide +kernel) (by decide +kernel) (by decide +kernel)) ?_
      clear S; intro O' s S
      obtain ⟨cvs, nc, hzC, hcl4, hcget⟩ := hC.mono (le.trans le₂)
      refine wpAny_bind (ldCell O'.kind (comp_cell O hcl (by decide +kernel)) rfl (S.keep _ _ (le₂ _ _ (le _ _ hco))) hoc ?_)
      refine wpAny_bind (wpAny_standAt (wpAny_bind (wpAny_pure (wpAny_bind (wpAny_holding (iterOf S hzC ?_))))))
      clear S; intro I' o' s hoc' hod' S
      refine wpAny_bind (wpAny_runOwn ?_)
      have hlen : j * 4 + 4 ≤ 64 := by
        have h1 : j < lvs.length := (List.getElem?_eq_some_iff.mp hv).1
        rw [hls.length] at h1
        have h2 : i = 0 ∨ i = 1 ∨ i = 2 := by omega
        rcases h2 with rfl | rfl | rfl <;> omega
      have ht0l := (hlx _ (List.mem_of_getElem? ht0)).len fun c hc => (hcs c hc).1
      refine compL' (emitted_in _ _ _ _ _ _ _ _ _) rfl S hoc' hod' hh hzC (fun k z' vals' ms' => ∃ x2 x3 acc axs na, vals' = [some (.str u0 tk0), x2, x3] ∧ ms' = (I₂, o₂) :: (D', listOf acc.toArray na) :: (L, oL) :: _ ∧ StrsAre acc axs ∧ (∀ t ∈ axs, TextOf cs (i + 1) t) ∧ axs.length ≤ j * 4 + k)
        ⟨_, _, _, axs, _, rfl, rfl, hax, hat, han⟩ ?_ ?_
      · clear S
        intro E3 k v z₃ vals₃ o₃ ms₃ s hv₃ le₃ hJ S
        obtain ⟨x2, x3, acc, axs, na, rfl, rfl, hax, hat, han⟩ := hJ
        obtain ⟨c₃, hci, t', tk1, tk2, rfl, hzt3⟩ := hcget k v hv₃
        have hcm : c₃ ∈ cs := List.mem_of_getElem? hci
        have hk4 : k < 4 := by rw [← hcn]; exact (List.getElem?_eq_some_iff.mp hci).1
        refine asg2 S hh (isT S (le₃ _ _ hzt3)) ?_
        clear S; intro s S
        repeat walk_at "zz"
        refine wpAny_bind ?_
        repeat walk_at "zz"
        with_reducible rename St _ _ _ _ _ _ _ _ => S
        refine addS S (by rw [sizeLine_eq, (hcs c₃ hcm).1]; omega) ?_
        clear S; intro t7 s S
        refine wpAny_bind (app2 S (by rw [List.size_toArray, hax.length, sizeLine_eq]; omega) ?_)
        clear S; intro s S
        rw [List.push_toArray] at S
        refine wpAny_pure ?_
        refine ⟨_, _, _, Le.refl _, ⟨_, _, _, axs ++ [u0 ++ c₃.1], _, rfl, rfl, hax.append' (.cons _ _ .nil), ?_, ?_⟩, S⟩
        · intro t ht
          rcases List.mem_append.mp ht with ht | ht
          · exact hat t ht
          · simp at ht; subst ht; exact (hlx _ (List.mem_of_getElem? ht0)).snoc hcm
        · rw [List.length_append]; show _ + 1 ≤ _; omega
      · clear S
        intro z₃ vals₃ ms₃ s le₃ hJ S
        obtain ⟨x2, x3, acc, axs, na, rfl, rfl, hax, hat, han⟩ := hJ
        refine wpAny_pure ?_
        refine ⟨_, _, _, _, le₃, ⟨_, _, _, axs, rfl, hax, hat, ?_⟩, S⟩
        rw [hcl4, hcn] at han
        omega
    case done =>
      clear S
      intro z₂ D' acc na vals₂ s le₂ hJ S
      obtain ⟨x1, x2, x3, axs, rfl, hax, hat, han⟩ := hJ
      obtain ⟨z₃, le₃, hz₃, _, S⟩ := S.freeze
      have hzt := le₃ _ _ (le₂ _ _ hzt)
      have hpow : 4 ^ i ≤ 16 := Nat.le_trans (Nat.pow_le_pow_right (by decide) (show i ≤ 2 by omega)) (by decide)
      rw [hls.length] at han
      have hal : axs.length ≤ 4 ^ (i + 1) := by rw [Nat.pow_succ]; omega
      repeat walk_at "zz"
      refine exC ?_
      repeat walk_at "zz"
      with_reducible rename St _ _ _ _ _ _ _ _ => S
      refine addL S (S.keep _ _ hzt) (S.keep _ _ hz₃) (by rw [hts.length, hax.length, sizeLine_eq]; omega) ?_
      clear S; intro Dt' s S
      obtain ⟨z₄, le₄, hz₄, _, S⟩ := S.freeze
      repeat walk_at "zz"
      with_reducible rename St _ _ _ _ _ _ _ _ => S
      refine ⟨_, _, _, (le₂.trans le₃).trans le₄, ⟨Dt', D', _, ts ++ axs, 0, acc, axs, na, _, hts.append' hax, ?_, ?_, hz₄, hax, hal, hat, le₄ _ _ hz₃, rfl, rfl⟩, S⟩
      · rw [List.length_append]; omega
      · intro t ht
        rcases List.mem_append.mp ht with ht | ht
        · obtain ⟨l, h1, h2, h3⟩ := htx t ht
          exact ⟨l, h1, by omega, h3⟩
        · exact hat t ht
  · clear S
    intro z₁ vals₁ ms₁ s le hJ S
    obtain ⟨Dt', Dl', tvs, ts, n1, lvs, ls, n2, y6, hts, htn, htx, hzt, hls, hln, hlx, hzl, rfl, rfl⟩ := hJ
    repeat walk_at "zz"
    have h2 := h z₁ _ Dt' tvs ts n1 _ _ le hts htn htx hzt S
    exact h2
end
end Mine

namespace Mine
local macro_rules | `(tactic| walk_at "z ctl") => `(tactic| first | with_reducible refine iteT ?_ | with_reducible refine iteF ?_ | with_reducible refine nqN ?_ | with_reducible refine nqR ?_ | with_reducible refine nqB ?_ | with_reducible refine tqN ?_ | with_reducible refine tqB ?_ | with_reducible refine tqR ?_ | with_reducible refine rqR ?_ | with_reducible refine wpAny_execs_nil ?_ | with_reducible refine wpAny_If ?_ | with_reducible refine wpAny_Return_some ?_ | with_reducible refine wpAny_BinOp ?_ | with_reducible refine Subscript_ ?_ | with_reducible refine wpAny_Break ?_ | with_reducible refine Tuple_ ?_ | with_reducible refine List_ ?_ | with_reducible refine spliced_none ?_ | with_reducible refine callWith_method0 ?_ | with_reducible refine isTrue_and_nil ?_ | with_reducible refine isTrue_or_nil ?_ | with_reducible refine isTrue_and ?_ | with_reducible refine isTrue_or ?_ | with_reducible refine isTrue_not ?_ | with_reducible refine BoolOp_one ?_ | with_reducible refine BoolOp_and ?_ | with_reducible refine BoolOp_or ?_ | with_reducible refine wpAny_truthy_bool ?_ | with_reducible refine Constant_bool ?_ | with_reducible refine Constant_none ?_ | with_reducible refine evalPart_none_step ?_ | with_reducible refine evalPart_some_step ?_ | with_reducible refine wpAny_Slice ?_ | with_reducible refine GM.startswith ?_ | with_reducible refine GM.replace ?_ | with_reducible refine GM.find ?_ | with_reducible refine GM.split ?_ | with_reducible refine SC.startswith ?_ | with_reducible refine eq_str ?_ | with_reducible refine in_str ?_ | with_reducible refine ne_bool ?_ | with_reducible refine eq_int ?_ | with_reducible refine lt_int ?_ | with_reducible refine gt_int ?_ | ((with_reducible show wpAny _ _ (exec (Stmt.Assign [Expr.Name _ _] _ _) _) _ _ _); refine wpAny_Assign_Name ?_) | ((with_reducible show wpAny _ _ (exec (Stmt.Assign [Expr.Subscript _ _ _] _ _) _) _ _ _); refine wpAny_Assign_Subscript ?_) | ((with_reducible show wpAny _ _ (exec (Stmt.Expr _ _) _) _ _ _); refine exprZ (by assumption) ?_) | ((with_reducible show wpAny _ _ (exec (Stmt.For _ _ _ _ _) _) _ _ _); refine wpAny_For ?_) | ((with_reducible show wpAny _ _ (eval (Expr.Compare _ [_] [_] _) _) _ _ _); refine wpAny_Compare1 ?_) | ((with_reducible show wpAny _ _ (PySem.isTrue (Expr.Compare _ [_] [_] _) _ _) _ _ _); refine wpAny_isTrue_Compare1 ?_) | ((with_reducible show wpAny _ _ (PySem.isTrue (Expr.Name _ _) _ _) _ _ _); refine isTrue_plain ?_) | ((with_reducible show wpAny _ _ (PySem.isTrue (Expr.Call _ _ _ _) _ _) _ _ _); refine isTrue_plain ?_) | ((with_reducible show wpAny _ _ (eval (Expr.Call (Expr.Attribute _ _ _) _ [] _) _) _ _ _); refine MethodCall_ ?_) | ((with_reducible show wpAny _ _ (eval (Expr.Call (Expr.Name _ _) _ [] _) _) _ _ _); refine Call_ ?_) | ((with_reducible show wpAny _ _ (spliced (backTo _ (starEach (_ :: _) _))) _ _ _); refine spliced_more ?_) | ((with_reducible show wpAny _ _ (callWith _ (Value.builtin _) [] (backTo _ (starEach (_ :: _) _)) []) _ _ _); refine PyProof.Rows.callWith_builtin1 ?_) | ((with_reducible show wpAny _ _ (callWith _ (Value.builtin _) [_] (backTo _ (starEach (_ :: _) _)) []) _ _ _); refine cwM1 ?_) | ((with_reducible show wpAny _ _ (callWith _ (Value.type _) [] (backTo _ (starEach (_ :: _) _)) []) _ _ _); refine PyProof.Rows.callWith_type1 ?_))
local macro_rules | `(tactic| walk_at "z ld") => `(tactic| ((with_reducible rename St _ _ _ _ _ _ _ _ => zS); (with_reducible show wpAny _ _ (eval (Expr.Name _ _) _) _ _ _); first | with_reducible refine ld0 zS (by with_reducible assumption) ?_ | with_reducible refine ld1 zS (by with_reducible assumption) ?_ | with_reducible refine ld2 zS (by with_reducible assumption) ?_ | with_reducible refine ld3 zS (by with_reducible assumption) ?_ | with_reducible refine ld4 zS (by with_reducible assumption) ?_ | with_reducible refine ld5 zS (by with_reducible assumption) ?_ | with_reducible refine ld6 zS (by with_reducible assumption) ?_ | with_reducible refine ld7 zS (by with_reducible assumption) ?_ | with_reducible refine ld8 zS (by with_reducible assumption) ?_ | with_reducible refine ld9 zS (by with_reducible assumption) ?_ | with_reducible refine ld10 zS (by with_reducible assumption) ?_ | with_reducible refine ld11 zS (by with_reducible assumption) ?_ | with_reducible refine ld12 zS (by with_reducible assumption) ?_ | with_reducible refine ld13 zS (by with_reducible assumption) ?_ | with_reducible refine ld14 zS (by with_reducible assumption) ?_ | with_reducible refine ld15 zS (by with_reducible assumption) ?_ | with_reducible refine ld16 zS (by with_reducible assumption) ?_ | with_reducible refine ld17 zS (by with_reducible assumption) ?_ | with_reducible refine ld18 zS (by with_reducible assumption) ?_ | with_reducible refine ld19 zS (by with_reducible assumption) ?_ | with_reducible refine ld20 zS (by with_reducible assumption) ?_ | with_reducible refine ld21 zS (by with_reducible assumption) ?_))
local macro_rules | `(tactic| walk_at "z st") => `(tactic| ((with_reducible rename St _ _ _ _ _ _ _ _ => zS); (with_reducible show wpAny _ _ (storeName _ _ _) _ _ _); (first | with_reducible refine st0 zS (by with_reducible assumption) ?_ | with_reducible refine st1 zS (by with_reducible assumption) ?_ | with_reducible refine st2 zS (by with_reducible assumption) ?_ | with_reducible refine st3 zS (by with_reducible assumption) ?_ | with_reducible refine st4 zS (by with_reducible assumption) ?_ | with_reducible refine st5 zS (by with_reducible assumption) ?_ | with_reducible refine st6 zS (by with_reducible assumption) ?_ | with_reducible refine st7 zS (by with_reducible assumption) ?_ | with_reducible refine st8 zS (by with_reducible assumption) ?_ | with_reducible refine st9 zS (by with_reducible assumption) ?_ | with_reducible refine st10 zS (by with_reducible assumption) ?_ | with_reducible refine st11 zS (by with_reducible assumption) ?_ | with_reducible refine st12 zS (by with_reducible assumption) ?_ | with_reducible refine st13 zS (by with_reducible assumption) ?_ | with_reducible refine st14 zS (by with_reducible assumption) ?_ | with_reducible refine st15 zS (by with_reducible assumption) ?_ | with_reducible refine st16 zS (by with_reducible assumption) ?_ | with_reducible refine st17 zS (by with_reducible assumption) ?_ | with_reducible refine st18 zS (by with_reducible assumption) ?_ | with_reducible refine st19 zS (by with_reducible assumption) ?_ | with_reducible refine st20 zS (by with_reducible assumption) ?_ | with_reducible refine st21 zS (by with_reducible assumption) ?_); clear zS; intro _ _ _))
local macro_rules | `(tactic| walk_at "z op") => `(tactic| ((with_reducible rename St _ _ _ _ _ _ _ _ => zS); (first | with_reducible refine kInt zS ?_ | with_reducible refine kStr zS ?_ | with_reducible refine addI zS ?_ | with_reducible refine modI zS (by decide) ?_ | with_reducible refine subI zS ?_ | with_reducible refine range1 zS ?_ | with_reducible refine findS zS ?_); clear zS; intros))
local macro_rules | `(tactic| walk_at "z new") => `(tactic| ((with_reducible rename St _ _ _ _ _ _ _ _ => zS); (first | ((with_reducible show wpAny _ _ (newTuple _) _ _ _); refine newT zS ?_ ?_; exact Nat.le_of_ble_eq_true rfl) | ((with_reducible show wpAny _ _ (newList _) _ _ _); refine newL zS ?_ ?_; exact Nat.le_of_ble_eq_true rfl)); clear zS; intro _ _ _))
local macro_rules | `(tactic| walk_at "zz") => `(tactic| first | walk_at "z ctl" | walk_at "z ld" | walk_at "z st" | walk_at "z op" | walk_at "z nm")
local macro_rules | `(tactic| walk_at "z") => `(tactic| first | with_reducible refine exC ?_ | walk_at "zz")
local macro_rules | `(tactic| walk_at "zn") => `(tactic| first | walk_at "zz" | walk_at "z new")

local macro_rules | `(tactic| walk_at "z nm") => `(tactic| ((with_reducible rename St _ _ _ _ _ _ _ _ => zS); (first | with_reducible refine ldLen zS (by with_reducible assumption) (by with_reducible assumption) (by decide) ?_ | with_reducible refine ldRange zS (by with_reducible assumption) (by with_reducible assumption) (by decide) ?_)))

theorem smallOf {cs : List (Str × Str)} {b : Bool} (hcn : cs.length = 4) (hcs : ∀ c ∈ cs, c.1.length = 1 ∧ c.2 = wroteF b c.1) : SmallCodes cs := by
  refine ⟨by omega, fun c hc => ?_⟩
  have h := hcs c hc
  have h2 := wrote_len b h.1
  rw [← h.2] at h2
  exact ⟨by omega, h2⟩

/-- the two pieces' spans -/
def SpansAt (z : PHeap) (acc : List Value) (cs : List (Str × Str)) (ps : List Str) : Prop := ∀ (k : Nat) (v : Value), acc[k]? = some v → ∃ p : Str, ps[k]? = some p ∧ SL z v (spansF cs p)

section
variable {w : World} {A : Around} {E : Value → Shared → Prop} {h₀ : Heap} {mg mb : Str → Option Value} {g : Shared} {z z' : PHeap} {L : Addr} {K Gs : List Str} {vals : List (Option Value)} {ms : List (Addr × Obj)} {s : Shared} {env : Env}

theorem asgComp1 {x : Str} {py : Pos} {v : Value} {v0 : Option Value} {env' : Env} {C : Addr} {Kr : List Str} {vr : List (Option Value)} {Q : Unit → Shared → Prop} (S : St h₀ g z C (x :: Kr) (v0 :: vr) ms s) (O' : EnvOk env' C (x :: Kr) Gs)
    (h : EnvOk env' C (x :: Kr) Gs → ∀ s', St h₀ g z C (x :: Kr) (some v :: vr) ms s' → Q () s') : wpAny (model P2 w) A (assign (.Name x py) env' v) Q E s :=
  wpAny_assign_Name (st0 S O' fun s' _ S' => h O' s' S')

set_option maxHeartbeats 8000000 in
theorem seg_e1 {D sl c C Dp Dt : Addr} {oc : Obj} {cs : List (Str × Str)} {b : Bool} {p0 p1 : Str} {tp0 tp1 : Tok} {np : Nat} {x p y y2 y3 y4 y5 y6 : Option Value} {Q : Flow → Shared → Prop} (G : G2 h₀ mg mb) (hh : A.handled = none) (hd : A.depth ≤ 500) (O : EnvOk env L K2 Gs2)
    (hcl : env.kindOf (Str.ofString "codes") = some .cell) (hcc : env.cells.lookup (Str.ofString "codes") = some c)
    (hco : z c = some oc) (hoc : oc.data = .cell (some (.ref C))) (hC : CodesAt z C cs) (H : SmallCodes cs)
    (hp0 : p0.length ≤ 9) (hp1 : p1.length ≤ 9) (hzp : z Dp = some (listOf [.str p0 tp0, .str p1 tp1].toArray np))
    (S : St h₀ g z L K2 [some (.ref sl), some (.ref D), x, some (.bool b), p, y, y2, y3, y4, some (.ref Dp), some (.ref Dt), y5, y6, none, none, none, none, none] [] s)
    (h : ∀ (z' : PHeap) (s' : Shared) (Ds : Addr) (acc : List Value) (n : Nat), Le z z' → acc.length = 2 → SpansAt z' acc cs [p0, p1] → z' Ds = some (listOf acc.toArray n) →
      St h₀ g z' L K2 [some (.ref sl), some (.ref D), x, some (.bool b), p, y, y2, y3, y4, some (.ref Dp), some (.ref Dt), y5, y6, none, some (.ref Ds), none, none, none] [] s' →
      wpAny (model P2 w) A (execs ((bodyOf P2 6).drop 14) env) Q E s') :
    wpAny (model P2 w) A (execs ((bodyOf P2 6).drop 13) env) Q E s := by
  refine exC ?_
  refine compAssign (K' := [Str.ofString "piece"]) (k := 1) (iy := 14) (cl := [(Str.ofString "codes", c)]) S O hh rfl ?hsw (fun _ => rfl) ?hclos ?hcell rfl ?hnames rfl ?hiy ?hiter hzp (fun D C => emitted_one _ _ _ _ _ _ _)
      (fun j z' vals' acc => ∃ x1, vals' = [x1] ∧ acc.length = j ∧ SpansAt z' acc cs [p0, p1]) ?h0 ?turn ?done
  case hsw => exact swaps_yes O (by decide +kernel) (by decide +kernel) (by decide +kernel)
  case hclos =>
    unfold closureFor
    simp [cellOf, hcc]
  case hcell => decide +kernel
  case hnames => decide +kernel
  case hiy => exact Nat.le_of_ble_eq_true rfl
  case hiter =>
    intro Q' hq
    repeat walk_at "zz"
    exact hq
  case h0 => exact ⟨_, rfl, rfl, fun k v hk => by simp at hk⟩
  case turn =>
    clear S
    intro E'' C' D' oL j v z₂ vals'' I₂ o₂ acc na s' hv le₂ hJ S
    obtain ⟨x1, rfl, han, hat⟩ := hJ
    obtain ⟨u0, tk0, rfl, ht0⟩ : ∃ u0 tk0, v = .str u0 tk0 ∧ [p0, p1][j]? = some u0 := StrsAre.at (.cons _ _ (.cons _ _ .nil)) hv
    have hu : u0.length ≤ 9 := by
      have := List.mem_of_getElem? ht0
      simp at this
      rcases this with rfl | rfl <;> assumption
    refine asgComp1 S (compOk O rfl (by decide +kernel) (Gs' := [Str.ofString "_law_spans"]) (by decide +kernel) (by decide +kernel) (by decide +kernel) (by decide +kernel)) ?_
    clear S; intro O' s S
    refine wpAny_bind ?_
    repeat walk_at "zz"
    with_reducible rename St _ _ _ _ _ _ _ _ => S
    refine ldG S O' (by decide) G.gn G.g43 ?_
    obtain ⟨oc', od, osl, name, qual, kV, doc, pm, an, cdv, ct, ho, hcd⟩ := G.f43
    refine callWith_fn ho rfl ?_ rfl
    repeat walk_at "zz"
    refine ldCell O'.kind (comp_cell O hcl (by decide +kernel)) rfl (S.keep _ _ (le₂ _ _ hco)) hoc ?_
    repeat walk_at "zz"
    with_reducible rename St _ _ _ _ _ _ _ _ => S
    refine ⟨S.base, useSpec S (spans_spec G hh (by omega) S.base (hC.mono (le₂.trans S.keep)) H hu) ?_⟩
    intro v z₃ s₂ le₃ len₃ S₂ hv₂
    clear S
    have hv₃ := (hv₂.mono len₃).mono (nw_le _ _)
    have hj : j < 2 := (List.getElem?_eq_some_iff.mp hv).1
    refine wpAny_bind (app1 S₂ (by rw [List.size_toArray, han, sizeLine_eq]; omega) ?_)
    clear S₂; intro s S
    rw [List.push_toArray] at S
    refine wpAny_pure ?_
    refine ⟨_, _, _, _, le₃, ⟨_, rfl, ?_, ?_⟩, S⟩
    · rw [List.length_append, han]; rfl
    · intro k v' hk
      rcases Nat.lt_or_ge k acc.length with hlt | hge
      · rw [List.getElem?_append_left hlt] at hk
        obtain ⟨p, h1, h2⟩ := hat k v' hk
        exact ⟨p, h1, h2.mono le₃⟩
      · rw [List.getElem?_append_right hge] at hk
        have : k - acc.length = 0 := by
          have := (List.getElem?_eq_some_iff.mp hk).1
          simp at this; omega
        rw [this] at hk
        simp at hk
        subst hk
        have : k = j := by omega
        subst this
        exact ⟨u0, ht0, hv₃⟩
  case done =>
    clear S
    intro z₂ D' acc na vals₂ s le₂ hJ S
    obtain ⟨x1, rfl, han, hat⟩ := hJ
    obtain ⟨z₃, le₃, hz₃, _, S⟩ := S.freeze
    repeat walk_at "zz"
    with_reducible rename St _ _ _ _ _ _ _ _ => S
    have h2 := h z₃ _ D' acc na (le₂.trans le₃) han (fun k v hk => by obtain ⟨p, h1, h2⟩ := hat k v hk; exact ⟨p, h1, h2.mono le₃⟩) hz₃ S
    exact h2
end
end Mine

namespace Mine
local macro_rules | `(tactic| walk_at "z ctl") => `(tactic| first | with_reducible refine iteT ?_ | with_reducible refine iteF ?_ | with_reducible refine nqN ?_ | with_reducible refine nqR ?_ | with_reducible refine nqB ?_ | with_reducible refine tqN ?_ | with_reducible refine tqB ?_ | with_reducible refine tqR ?_ | with_reducible refine rqR ?_ | with_reducible refine wpAny_execs_nil ?_ | with_reducible refine wpAny_If ?_ | with_reducible refine wpAny_Return_some ?_ | with_reducible refine wpAny_BinOp ?_ | with_reducible refine Subscript_ ?_ | with_reducible refine wpAny_Break ?_ | with_reducible refine Tuple_ ?_ | with_reducible refine List_ ?_ | with_reducible refine spliced_none ?_ | with_reducible refine callWith_method0 ?_ | with_reducible refine isTrue_and_nil ?_ | with_reducible refine isTrue_or_nil ?_ | with_reducible refine isTrue_and ?_ | with_reducible refine isTrue_or ?_ | with_reducible refine isTrue_not ?_ | with_reducible refine BoolOp_one ?_ | with_reducible refine BoolOp_and ?_ | with_reducible refine BoolOp_or ?_ | with_reducible refine wpAny_truthy_bool ?_ | with_reducible refine Constant_bool ?_ | with_reducible refine Constant_none ?_ | with_reducible refine evalPart_none_step ?_ | with_reducible refine evalPart_some_step ?_ | with_reducible refine wpAny_Slice ?_ | with_reducible refine GM.startswith ?_ | with_reducible refine GM.replace ?_ | with_reducible refine GM.find ?_ | with_reducible refine GM.split ?_ | with_reducible refine SC.startswith ?_ | with_reducible refine eq_str ?_ | with_reducible refine in_str ?_ | with_reducible refine ne_bool ?_ | with_reducible refine eq_int ?_ | with_reducible refine lt_int ?_ | with_reducible refine gt_int ?_ | ((with_reducible show wpAny _ _ (exec (Stmt.Assign [Expr.Name _ _] _ _) _) _ _ _); refine wpAny_Assign_Name ?_) | ((with_reducible show wpAny _ _ (exec (Stmt.Assign [Expr.Subscript _ _ _] _ _) _) _ _ _); refine wpAny_Assign_Subscript ?_) | ((with_reducible show wpAny _ _ (exec (Stmt.Expr _ _) _) _ _ _); refine exprZ (by assumption) ?_) | ((with_reducible show wpAny _ _ (exec (Stmt.For _ _ _ _ _) _) _ _ _); refine wpAny_For ?_) | ((with_reducible show wpAny _ _ (eval (Expr.Compare _ [_] [_] _) _) _ _ _); refine wpAny_Compare1 ?_) | ((with_reducible show wpAny _ _ (PySem.isTrue (Expr.Compare _ [_] [_] _) _ _) _ _ _); refine wpAny_isTrue_Compare1 ?_) | ((with_reducible show wpAny _ _ (PySem.isTrue (Expr.Name _ _) _ _) _ _ _); refine isTrue_plain ?_) | ((with_reducible show wpAny _ _ (PySem.isTrue (Expr.Call _ _ _ _) _ _) _ _ _); refine isTrue_plain ?_) | ((with_reducible show wpAny _ _ (eval (Expr.Call (Expr.Attribute _ _ _) _ [] _) _) _ _ _); refine MethodCall_ ?_) | ((with_reducible show wpAny _ _ (eval (Expr.Call (Expr.Name _ _) _ [] _) _) _ _ _); refine Call_ ?_) | ((with_reducible show wpAny _ _ (spliced (backTo _ (starEach (_ :: _) _))) _ _ _); refine spliced_more ?_) | ((with_reducible show wpAny _ _ (callWith _ (Value.builtin _) [] (backTo _ (starEach (_ :: _) _)) []) _ _ _); refine PyProof.Rows.callWith_builtin1 ?_) | ((with_reducible show wpAny _ _ (callWith _ (Value.builtin _) [_] (backTo _ (starEach (_ :: _) _)) []) _ _ _); refine cwM1 ?_) | ((with_reducible show wpAny _ _ (callWith _ (Value.type _) [] (backTo _ (starEach (_ :: _) _)) []) _ _ _); refine PyProof.Rows.callWith_type1 ?_))
local macro_rules | `(tactic| walk_at "z ld") => `(tactic| ((with_reducible rename St _ _ _ _ _ _ _ _ => zS); (with_reducible show wpAny _ _ (eval (Expr.Name _ _) _) _ _ _); first | with_reducible refine ld0 zS (by with_reducible assumption) ?_ | with_reducible refine ld1 zS (by with_reducible assumption) ?_ | with_reducible refine ld2 zS (by with_reducible assumption) ?_ | with_reducible refine ld3 zS (by with_reducible assumption) ?_ | with_reducible refine ld4 zS (by with_reducible assumption) ?_ | with_reducible refine ld5 zS (by with_reducible assumption) ?_ | with_reducible refine ld6 zS (by with_reducible assumption) ?_ | with_reducible refine ld7 zS (by with_reducible assumption) ?_ | with_reducible refine ld8 zS (by with_reducible assumption) ?_ | with_reducible refine ld9 zS (by with_reducible assumption) ?_ | with_reducible refine ld10 zS (by with_reducible assumption) ?_ | with_reducible refine ld11 zS (by with_reducible assumption) ?_ | with_reducible refine ld12 zS (by with_reducible assumption) ?_ | with_reducible refine ld13 zS (by with_reducible assumption) ?_ | with_reducible refine ld14 zS (by with_reducible assumption) ?_ | with_reducible refine ld15 zS (by with_reducible assumption) ?_ | with_reducible refine ld16 zS (by with_reducible assumption) ?_ | with_reducible refine ld17 zS (by with_reducible assumption) ?_ | with_reducible refine ld18 zS (by with_reducible assumption) ?_ | with_reducible refine ld19 zS (by with_reducible assumption) ?_ | with_reducible refine ld20 zS (by with_reducible assumption) ?_ | with_reducible refine ld21 zS (by with_reducible assumption) ?_))
local macro_rules | `(tactic| walk_at "z st") => `(tactic| ((with_reducible rename St _ _ _ _ _ _ _ _ => zS); (with_reducible show wpAny _ _ (storeName _ _ _) _ _ _); (first | with_reducible refine st0 zS (by with_reducible assumption) ?_ | with_reducible refine st1 zS (by with_reducible assumption) ?_ | with_reducible refine st2 zS (by with_reducible assumption) ?_ | with_reducible refine st3 zS (by with_reducible assumption) ?_ | with_reducible refine st4 zS (by with_reducible assumption) ?_ | with_reducible refine st5 zS (by with_reducible assumption) ?_ | with_reducible refine st6 zS (by with_reducible assumption) ?_ | with_reducible refine st7 zS (by with_reducible assumption) ?_ | with_reducible refine st8 zS (by with_reducible assumption) ?_ | with_reducible refine st9 zS (by with_reducible assumption) ?_ | with_reducible refine st10 zS (by with_reducible assumption) ?_ | with_reducible refine st11 zS (by with_reducible assumption) ?_ | with_reducible refine st12 zS (by with_reducible assumption) ?_ | with_reducible refine st13 zS (by with_reducible assumption) ?_ | with_reducible refine st14 zS (by with_reducible assumption) ?_ | with_reducible refine st15 zS (by with_reducible assumption) ?_ | with_reducible refine st16 zS (by with_reducible assumption) ?_ | with_reducible refine st17 zS (by with_reducible assumption) ?_ | with_reducible refine st18 zS (by with_reducible assumption) ?_ | with_reducible refine st19 zS (by with_reducible assumption) ?_ | with_reducible refine st20 zS (by with_reducible assumption) ?_ | with_reducible refine st21 zS (by with_reducible assumption) ?_); clear zS; intro _ _ _))
local macro_rules | `(tactic| walk_at "z op") => `(tactic| ((with_reducible rename St _ _ _ _ _ _ _ _ => zS); (first | with_reducible refine kInt zS ?_ | with_reducible refine kStr zS ?_ | with_reducible refine addI zS ?_ | with_reducible refine modI zS (by decide) ?_ | with_reducible refine subI zS ?_ | with_reducible refine range1 zS ?_ | with_reducible refine findS zS ?_); clear zS; intros))
local macro_rules | `(tactic| walk_at "z new") => `(tactic| ((with_reducible rename St _ _ _ _ _ _ _ _ => zS); (first | ((with_reducible show wpAny _ _ (newTuple _) _ _ _); refine newT zS ?_ ?_; exact Nat.le_of_ble_eq_true rfl) | ((with_reducible show wpAny _ _ (newList _) _ _ _); refine newL zS ?_ ?_; exact Nat.le_of_ble_eq_true rfl)); clear zS; intro _ _ _))
local macro_rules | `(tactic| walk_at "zz") => `(tactic| first | walk_at "z ctl" | walk_at "z ld" | walk_at "z st" | walk_at "z op" | walk_at "z nm")
local macro_rules | `(tactic| walk_at "z") => `(tactic| first | with_reducible refine exC ?_ | walk_at "zz")
local macro_rules | `(tactic| walk_at "zn") => `(tactic| first | walk_at "zz" | walk_at "z new")

local macro_rules | `(tactic| walk_at "z nm") => `(tactic| ((with_reducible rename St _ _ _ _ _ _ _ _ => zS); (first | with_reducible refine ldLen zS (by with_reducible assumption) (by with_reducible assumption) (by decide) ?_ | with_reducible refine ldRange zS (by with_reducible assumption) (by with_reducible assumption) (by decide) ?_)))

section
variable {w : World} {A : Around} {E : Value → Shared → Prop} {h₀ : Heap} {mg mb : Str → Option Value} {g : Shared} {z z' : PHeap} {L : Addr} {K Gs : List Str} {vals : List (Option Value)} {ms : List (Addr × Obj)} {s : Shared} {env : Env}

def toldF (cs : List (Str × Str)) (p t : Str) : Bool := (spansF cs p).any fun q => isIn q t

set_option maxHeartbeats 8000000 in
theorem seg_e2 {D sl Dp Dt Ds : Addr} {cs : List (Str × Str)} {b : Bool} {p0 p1 : Str} {tp0 tp1 : Tok} {np n n1 : Nat} {tvs acc : List Value} {ts : List Str} {x p y y2 y3 y4 y5 y6 : Option Value} {Q : Flow → Shared → Prop} (G : G2 h₀ mg mb) (hh : A.handled = none) (hd : A.depth ≤ 500) (O : EnvOk env L K2 Gs2)
    (hp0 : p0.length ≤ 9) (hp1 : p1.length ≤ 9) (hzp : z Dp = some (listOf [.str p0 tp0, .str p1 tp1].toArray np))
    (hacc : acc.length = 2) (hsp : SpansAt z acc cs [p0, p1]) (hzs : z Ds = some (listOf acc.toArray n)) (hts : StrsAre tvs ts) (htl : ∀ t ∈ ts, t.length ≤ 3) (hzt : z Dt = some (listOf tvs.toArray n1))
    (law : ∀ t ∈ ts, ∀ p ∈ [p0, p1], isIn p (escF b t) = toldF cs p t)
    (S : St h₀ g z L K2 [some (.ref sl), some (.ref D), x, some (.bool b), p, y, y2, y3, y4, some (.ref Dp), some (.ref Dt), y5, y6, none, some (.ref Ds), none, none, none] [] s)
    (h : ∀ s', Keeps g s' → Q (.ret (.bool true)) s') :
    wpAny (model P2 w) A (execs ((bodyOf P2 6).drop 14) env) Q E s := by
  refine exC ?_
  repeat walk_at "zz"
  with_reducible rename St _ _ _ _ _ _ _ _ => S
  refine forL S hh hzt (fun i z' vals' ms' => ∃ x y7 y8 y9 y10, vals' = [some (.ref sl), some (.ref D), x, some (.bool b), p, y, y2, y3, y4, some (.ref Dp), some (.ref Dt), y5, y6, y7, some (.ref Ds), y8, y9, y10] ∧ ms' = []) ⟨_, _, _, _, _, rfl, rfl⟩ ?_ ?_
  · clear S
    intro E' i v z₁ vals' I o ms' s hv le hJ S
    obtain ⟨x, y7, y8, y9, y10, rfl, rfl⟩ := hJ
    obtain ⟨t0, tk0, rfl, ht0⟩ := StrsAre.at hts hv
    have ht0m := List.mem_of_getElem? ht0
    refine wpAny_assign_Name ?_
    repeat walk_at "zz"
    refine exC ?_
    repeat walk_at "zz"
    with_reducible rename St _ _ _ _ _ _ _ _ => S
    refine ldG S O (by decide) G.gn G.g22 ?_
    obtain ⟨oc', od, osl, name, qual, kV, doc, pm, an, cdv, ct, ho, hcd⟩ := G.f22
    refine callWith_fn ho rfl ?_ rfl
    repeat walk_at "zz"
    with_reducible rename St _ _ _ _ _ _ _ _ => S
    refine ⟨S.base, useSpec S (esc_spec2 G.f22 G.d15 G.lim (by omega) S.base (by have := htl t0 ht0m; omega)) ?_⟩
    intro v z₂ s₂ le₂ len₂ S₂ hv₂
    obtain ⟨tw, rfl⟩ := hv₂
    clear S
    repeat walk_at "zz"
    refine exC ?_
    repeat walk_at "zz"
    with_reducible rename St _ _ _ _ _ _ _ _ => S
    refine newT S ?hsz ?_
    case hsz => exact Nat.le_of_ble_eq_true rfl
    clear S; intro T s S
    obtain ⟨z₃, le₃, hzT, _, S⟩ := S.freeze
    repeat walk_at "zz"
    with_reducible rename St _ _ _ _ _ _ _ _ => S
    refine forT S hh hzT (fun k z' vals' ms' => ∃ x y8 y9, vals' = [some (.ref sl), some (.ref D), x, some (.bool b), p, y, y2, y3, y4, some (.ref Dp), some (.ref Dt), y5, y6, some (.str t0 tk0), some (.ref Ds), some (.str (escF b t0) tw), y8, y9] ∧ ms' = [(I, o)]) ⟨_, _, _, rfl, rfl⟩ ?_ ?_
    · clear S
      intro E2 k v z₄ vals' I₂ o₂ ms' s hv₄ le₄ hJ S
      obtain ⟨x, y8, y9, rfl, rfl⟩ := hJ
      have hle : Le z z₄ := ((le.trans le₂).trans le₃).trans le₄
      obtain ⟨tk, hk, rfl⟩ : ∃ tk, k < 2 ∧ v = .int (k : Nat) tk := by
        match k, hv₄ with
        | 0, hv₄ => exact ⟨_, by decide, by simpa using hv₄.symm⟩
        | 1, hv₄ => exact ⟨_, by decide, by simpa using hv₄.symm⟩
      obtain ⟨pk, tpk, hpk, hpv⟩ : ∃ pk tpk, [p0, p1][k]? = some pk ∧ [Value.str p0 tp0, .str p1 tp1][k]? = some (.str pk tpk) := by
        match k, hk with
        | 0, _ => exact ⟨_, _, rfl, rfl⟩
        | 1, _ => exact ⟨_, _, rfl, rfl⟩
      obtain ⟨sv, hsv⟩ : ∃ sv, acc[k]? = some sv := ⟨acc[k]'(by omega), List.getElem?_eq_getElem (by omega)⟩
      obtain ⟨pk', hpk', as, svs, ns, rfl, hzas, hsvs⟩ := hsp k sv hsv
      rw [hpk] at hpk'
      cases hpk'
      have hlaw := law t0 ht0m pk (List.mem_of_getElem? hpk)
      refine wpAny_assign_Name ?_
      repeat walk_at "zz"
      refine exC ?_
      repeat walk_at "zz"
      with_reducible rename St _ _ _ _ _ _ _ _ => S
      refine exJ (fun s' => ∃ z₅ y9, Le z₄ z₅ ∧ St h₀ g z₅ L K2 [some (.ref sl), some (.ref D), some (.int (k : Nat) tk), some (.bool b), p, y, y2, y3, y4, some (.ref Dp), some (.ref Dt), y5, y6, some (.str t0 tk0), some (.ref Ds), some (.str (escF b t0) tw), some (.bool (toldF cs pk t0)), y9] [(I₂, o₂), (I, o)] s') ?_ ?_
      · intro Q' hQ'
        repeat walk_at "zz"
        with_reducible rename St _ _ _ _ _ _ _ _ => S
        refine itemZ (isL S (hle _ _ hzs)) (by omega) (by omega) (by simpa using hsv) ?_
        repeat walk_at "zz"
        refine forL S hh (hle _ _ hzas) (fun i z' vals' ms' => ∃ y9, vals' = [some (.ref sl), some (.ref D), some (.int (k : Nat) tk), some (.bool b), p, y, y2, y3, y4, some (.ref Dp), some (.ref Dt), y5, y6, some (.str t0 tk0), some (.ref Ds), some (.str (escF b t0) tw), some (.bool false), y9] ∧ ms' = [(I₂, o₂), (I, o)] ∧ ∀ q ∈ (spansF cs pk).take i, isIn q t0 = false)
          ⟨_, rfl, rfl, fun q hq => by simp at hq⟩ ?_ ?_
        · clear S
          intro E3 i₃ v z₅ vals₃ I₃ o₃ ms₃ s hv₃ le₅ hJ S
          obtain ⟨y9, rfl, rfl, hno⟩ := hJ
          obtain ⟨q0, tq0, rfl, hq0⟩ := StrsAre.at hsvs hv₃
          refine wpAny_assign_Name ?_
          repeat walk_at "z"
          refine iteB ?_ ?_
          · intro hin
            repeat walk_at "z"
            with_reducible rename St _ _ _ _ _ _ _ _ => S
            have ht : toldF cs pk t0 = true := List.any_eq_true.mpr ⟨q0, List.mem_of_getElem? hq0, hin⟩
            have S2 := S.drop
            rw [← ht] at S2
            exact hQ' _ ⟨_, _, le₅, S2⟩
          · intro hin
            repeat walk_at "z"
            with_reducible rename St _ _ _ _ _ _ _ _ => S
            refine ⟨_, _, _, Le.refl _, ⟨_, rfl, rfl, fun q hq => ?_⟩, S⟩
            rw [List.take_add_one, hq0] at hq
            rcases List.mem_append.mp hq with hq | hq
            · exact hno q hq
            · simp at hq; subst hq; exact hin
        · clear S
          intro z₅ vals₃ ms₃ s le₅ hJ S
          obtain ⟨y9, rfl, rfl, hno⟩ := hJ
          rw [hsvs.length, List.take_length] at hno
          have ht : toldF cs pk t0 = false := by
            unfold toldF
            rw [List.any_eq_false]
            intro q hq; rw [hno q hq]; decide
          rw [← ht] at S
          exact hQ' _ ⟨_, _, le₅, S⟩
      · clear S
        rintro s ⟨z₅, y9, le₅, S⟩
        refine exC ?_
        repeat walk_at "zz"
        with_reducible rename St _ _ _ _ _ _ _ _ => S
        refine itemZ (isL S (le₅ _ _ (hle _ _ hzp))) (by omega) (by omega) (by simpa using hpv) ?_
        repeat walk_at "zz"
        refine iteB ?_ ?_
        · intro hne
          exfalso
          have hb : isIn pk (escF b t0) = !(Builtin.Str.occurrences (escF b t0) pk 0 (escF b t0).length 1).isEmpty := rfl
          rw [← hb, hlaw] at hne
          simp at hne
        · intro _
          repeat walk_at "z"
          with_reducible rename St _ _ _ _ _ _ _ _ => S
          refine ⟨_, _, _, le₅, ⟨_, _, _, rfl, rfl⟩, S⟩
    · clear S
      intro z₄ vals₄ ms₄ s le₄ hJ S
      obtain ⟨x, y8, y9, rfl, rfl⟩ := hJ
      repeat walk_at "zz"
      exact ⟨_, _, _, (le₂.trans le₃).trans le₄, ⟨_, _, _, _, _, rfl, rfl⟩, S⟩
  · clear S
    intro z₁ vals₁ ms₁ s le hJ S
    obtain ⟨x, y7, y8, y9, y10, rfl, rfl⟩ := hJ
    repeat walk_at "zz"
    refine exC ?_
    repeat walk_at "zz"
    exact h _ S.keeps
end
end Mine

namespace Mine

def escCh (b : Bool) (d : Nat) : List Nat := tl (wroteF b ⟨#[d]⟩)

theorem ofS1 (s : String) (c : Nat) (h : Str.ofString s = ⟨#[c]⟩) (x z : Str) : tl (Txt.replace x (Str.ofString s) z) = (tl x).flatMap fun d => if d = c then tl z else [d] := by
  rw [h, rep_one]

theorem wrote_other {b : Bool} {d : Nat} (h1 : d ≠ 38) (h2 : d ≠ 60) (h3 : d ≠ 62) (h4 : d ≠ 34) (h5 : d ≠ 39) : wroteF b ⟨#[d]⟩ = ⟨#[d]⟩ := by
  have key : ∀ (s : String) (c : Nat), Str.ofString s = ⟨#[c]⟩ → d ≠ c → (Str.ofString s == (⟨#[d]⟩ : Str)) = false := by
    intro s c e ne
    rw [e, beq_eq_false_iff_ne]
    intro q
    injection q with q
    have := congrArg Array.toList q
    simp at this
    exact ne this.symm
  unfold wroteF wtab
  simp only [List.find?, wpred, key "&" 38 (by decide +kernel) h1, key "<" 60 (by decide +kernel) h2, key ">" 62 (by decide +kernel) h3, key "\"" 34 (by decide +kernel) h4, key "'" 39 (by decide +kernel) h5, Bool.false_and]

theorem esc_ch (b : Bool) (x : Str) : tl (escF b x) = (tl x).flatMap (escCh b) := by
  unfold escF
  have e1 := ofS1 "&" 38 (by decide +kernel)
  have e2 := ofS1 "<" 60 (by decide +kernel)
  have e3 := ofS1 ">" 62 (by decide +kernel)
  have e4 := ofS1 "\"" 34 (by decide +kernel)
  have e5 := ofS1 "'" 39 (by decide +kernel)
  cases b
  · show tl (Txt.replace (Txt.replace (Txt.replace x _ _) _ _) _ _) = _
    rw [e3, e2, e1, List.flatMap_assoc, List.flatMap_assoc]
    congr 1
    funext d
    by_cases h1 : d = 38
    · subst h1; decide +kernel
    by_cases h2 : d = 60
    · subst h2; decide +kernel
    by_cases h3 : d = 62
    · subst h3; decide +kernel
    by_cases h4 : d = 34
    · subst h4; decide +kernel
    by_cases h5 : d = 39
    · subst h5; decide +kernel
    unfold escCh
    rw [wrote_other h1 h2 h3 h4 h5]
    simp [h1, h2, h3]
  · show tl (Txt.replace (Txt.replace (Txt.replace (Txt.replace (Txt.replace x _ _) _ _) _ _) _ _) _ _) = _
    rw [e5, e4, e3, e2, e1, List.flatMap_assoc, List.flatMap_assoc, List.flatMap_assoc, List.flatMap_assoc]
    congr 1
    funext d
    by_cases h1 : d = 38
    · subst h1; decide +kernel
    by_cases h2 : d = 60
    · subst h2; decide +kernel
    by_cases h3 : d = 62
    · subst h3; decide +kernel
    by_cases h4 : d = 34
    · subst h4; decide +kernel
    by_cases h5 : d = 39
    · subst h5; decide +kernel
    unfold escCh
    rw [wrote_other h1 h2 h3 h4 h5]
    simp [h1, h2, h3, h4, h5]

/-- the text and the writing of a row of codes -/
def tx (l : List (Str × Str)) : List Nat := l.flatMap fun c => tl c.1
def wr (l : List (Str × Str)) : List Nat := l.flatMap fun c => tl c.2
theorem tx_cons (c : Str × Str) (l : List (Str × Str)) : tx (c :: l) = tl c.1 ++ tx l := rfl
theorem wr_cons (c : Str × Str) (l : List (Str × Str)) : wr (c :: l) = tl c.2 ++ wr l := rfl

structure Codes (b : Bool) (cs : List (Str × Str)) : Prop where
  one : ∀ c ∈ cs, c.1.length = 1
  wrt : ∀ c ∈ cs, c.2 = wroteF b c.1

theorem one_ch {x : Str} (h : x.length = 1) : ∃ d, x = ⟨#[d]⟩ ∧ tl x = [d] := by
  rw [len_tl] at h
  obtain ⟨d, hd⟩ := List.length_eq_one_iff.mp h
  exact ⟨d, tl_inj (by rw [hd]), hd⟩

theorem flat_congr {α β : Type} {f g : α → List β} : ∀ {l : List α}, (∀ c ∈ l, f c = g c) → l.flatMap f = l.flatMap g
  | [], _ => rfl
  | c :: l, h => by rw [List.flatMap_cons, List.flatMap_cons, h c (.head _), flat_congr fun d hd => h d (.tail _ hd)]
theorem esc_wr {b : Bool} {cs l : List (Str × Str)} (H : Codes b cs) (hl : ∀ c ∈ l, c ∈ cs) {t : Str} (ht : tl t = tx l) : tl (escF b t) = wr l := by
  rw [esc_ch, ht]
  clear ht
  unfold tx wr
  rw [List.flatMap_assoc]
  refine flat_congr fun c hc => ?_
  obtain ⟨d, h1, h2⟩ := one_ch (H.one c (hl c hc))
  rw [h2, H.wrt c (hl c hc), h1]
  simp [escCh]

theorem head_eq {b : Bool} {cs l : List (Str × Str)} (H : Codes b cs) (hl : ∀ c ∈ l, c ∈ cs) {c : Str × Str} (hc : c ∈ cs) {r : List Nat} (hp : tl c.1 ++ r <+: tx l) : ∃ l', l = c :: l' ∧ r <+: tx l' := by
  obtain ⟨d, h1, h2⟩ := one_ch (H.one c hc)
  cases l with
  | nil => rw [h2] at hp; exact absurd (List.prefix_nil.mp hp) (by simp)
  | cons e l' =>
    have he := hl e (.head _)
    obtain ⟨d', h1', h2'⟩ := one_ch (H.one e he)
    rw [tx_cons, h2, h2', List.singleton_append, List.singleton_append, List.cons_prefix_cons] at hp
    obtain ⟨rfl, hp⟩ := hp
    have e1 : c.1 = e.1 := by rw [h1, h1']
    have e2 : c = e := Prod.ext e1 (by rw [H.wrt c hc, H.wrt e he, e1])
    subst e2
    exact ⟨l', rfl, hp⟩

theorem tl_ne {x : Str} (h : 1 ≤ x.length) : tl x ≠ [] := by
  rw [len_tl] at h
  intro q; rw [q] at h; simp at h

theorem behind_to {b : Bool} {cs : List (Str × Str)} (H : Codes b cs) (W1 : ∀ c ∈ cs, 1 ≤ c.2.length) : ∀ (n : Nat) (p : Str) (l : List (Str × Str)), (∀ c ∈ l, c ∈ cs) → p.length < n → 1 ≤ p.length → tl p <+: wr l → ∃ q ∈ behindF n cs p, tl q <+: tx l
  | 0, p, l, _, h, _, _ => absurd h (Nat.not_lt_zero _)
  | n + 1, p, [], _, _, h1, hp => absurd (List.prefix_nil.mp hp) (tl_ne h1)
  | n + 1, p, c :: l, hl, hn, h1, hp => by
    have hc := hl c (.head _)
    rw [behindF_succ]
    by_cases hs : Txt.startswith c.2 p = true
    · refine ⟨c.1, List.mem_flatMap.mpr ⟨c, hc, ?_⟩, ⟨tx l, rfl⟩⟩
      unfold behindG
      rw [if_pos hs]; simp
    · have hs' : ¬ tl p <+: tl c.2 := fun q => hs (sw_iff.mpr q)
      rw [wr_cons] at hp
      have hle : (tl c.2).length ≤ (tl p).length := by
        rcases Nat.lt_or_ge (tl p).length (tl c.2).length with q | q
        · exact absurd (List.prefix_of_prefix_length_le hp (List.prefix_append _ _) (Nat.le_of_lt q)) hs'
        · exact q
      have hcp : tl c.2 <+: tl p := List.prefix_of_prefix_length_le (List.prefix_append _ _) hp hle
      obtain ⟨r, hr⟩ := hcp
      rw [← hr, List.prefix_append_right_inj] at hp
      have hd : tl (Txt.slice p (some (c.2.length : Int)) none) = r := by
        rw [sl_from, ← hr, len_tl, List.drop_left]
      have hlen : p.length = c.2.length + r.length := by rw [len_tl, ← hr, List.length_append, len_tl]
      have hrne : r ≠ [] := by
        intro q
        rw [q, List.append_nil] at hr
        exact hs' (by rw [hr]; exact List.prefix_refl _)
      have hr1 : 1 ≤ r.length := List.length_pos_iff.mpr hrne
      have hw := W1 c hc
      obtain ⟨q, hq, hqp⟩ := behind_to H W1 n (Txt.slice p (some (c.2.length : Int)) none) l (fun d hd => hl d (.tail _ hd)) (by rw [len_tl, hd]; omega) (by rw [len_tl, hd]; exact hr1) (by rw [hd]; exact hp)
      refine ⟨c.1 ++ q, List.mem_flatMap.mpr ⟨c, hc, ?_⟩, ?_⟩
      · unfold behindG
        rw [if_neg hs, if_pos (sw_iff.mpr ⟨r, hr⟩)]
        exact List.mem_map.mpr ⟨q, hq, rfl⟩
      · rw [tl_append, tx_cons, List.prefix_append_right_inj]
        exact hqp

theorem behind_of {b : Bool} {cs : List (Str × Str)} (H : Codes b cs) : ∀ (n : Nat) (p : Str) (l : List (Str × Str)), (∀ c ∈ l, c ∈ cs) → ∀ q ∈ behindF n cs p, tl q <+: tx l → tl p <+: wr l
  | 0, p, l, _, q, hq, _ => by simp [behindF] at hq
  | n + 1, p, l, hl, q, hq, hp => by
    rw [behindF_succ] at hq
    obtain ⟨c, hc, hq⟩ := List.mem_flatMap.mp hq
    unfold behindG at hq
    split at hq
    · rename_i hs
      simp at hq
      subst hq
      obtain ⟨l', rfl, _⟩ := head_eq H hl hc (r := []) (by rw [List.append_nil]; exact hp)
      rw [wr_cons]
      exact List.IsPrefix.trans (sw_iff.mp hs) (List.prefix_append _ _)
    · split at hq
      · rename_i hs
        obtain ⟨q', hq', rfl⟩ := List.mem_map.mp hq
        rw [tl_append] at hp
        obtain ⟨l', rfl, hp'⟩ := head_eq H hl hc hp
        have := behind_of H n _ l' (fun d hd => hl d (.tail _ hd)) q' hq' hp'
        obtain ⟨r, hr⟩ := sw_iff.mp hs
        rw [sl_from, ← hr, len_tl, List.drop_left] at this
        rw [wr_cons, ← hr, List.prefix_append_right_inj]
        exact this
      · simp at hq

theorem inf_split {a w p : List Nat} (h : p <:+: a ++ w) : p <:+: w ∨ ∃ k, k < a.length ∧ p <+: a.drop k ++ w := by
  induction a with
  | nil => exact .inl h
  | cons x a ih =>
    rw [List.cons_append, List.infix_cons_iff] at h
    rcases h with h | h
    · exact .inr ⟨0, by simp, h⟩
    · rcases ih h with h | ⟨k, h1, h2⟩
      · exact .inl h
      · exact .inr ⟨k + 1, by simp; omega, by simpa using h2⟩

theorem isIn_iff {y x : Str} : isIn y x = true ↔ tl y <:+: tl x := in_iff

theorem spans_to {b : Bool} {cs : List (Str × Str)} (H : Codes b cs) (W1 : ∀ c ∈ cs, 1 ≤ c.2.length) {p : Str} (hp9 : p.length ≤ 9) (h1 : 1 ≤ p.length) : ∀ (l : List (Str × Str)), (∀ c ∈ l, c ∈ cs) → tl p <:+: wr l → ∃ q ∈ cs.flatMap (spansG cs p), tl q <:+: tx l
  | [], _, hp => absurd (List.infix_nil.mp hp) (tl_ne h1)
  | c :: l, hl, hp => by
    have hc := hl c (.head _)
    have hl' : ∀ d ∈ l, d ∈ cs := fun d hd => hl d (.tail _ hd)
    rw [wr_cons] at hp
    rcases inf_split hp with hp | ⟨k, hk, hp⟩
    · obtain ⟨q, hq, hqp⟩ := spans_to H W1 hp9 h1 l hl' hp
      exact ⟨q, hq, hqp.trans (List.infix_append' (tl c.1) (tx l) [] |> fun h => by simpa [tx_cons] using h)⟩
    · rcases Nat.lt_or_ge ((tl c.2).drop k).length (tl p).length with hlt | hge
      · have hcp : (tl c.2).drop k <+: tl p := List.prefix_of_prefix_length_le (List.prefix_append _ _) hp (Nat.le_of_lt hlt)
        obtain ⟨r, hr⟩ := hcp
        rw [← hr, List.prefix_append_right_inj] at hp
        have hlen : (tl p).length = ((tl c.2).drop k).length + r.length := by rw [← hr, List.length_append]
        have ht : tl (Txt.slice c.2 (some (k : Int)) none) = (tl c.2).drop k := sl_from
        have htl : (Txt.slice c.2 (some (k : Int)) none).length = ((tl c.2).drop k).length := by rw [len_tl, ht]
        have hd : tl (Txt.slice p (some ((Txt.slice c.2 (some (k : Int)) none).length : Int)) none) = r := by
          rw [sl_from, ← hr, htl, List.drop_left]
        have hk2 : 1 ≤ ((tl c.2).drop k).length := by rw [List.length_drop]; omega
        rw [← len_tl] at hlen
        obtain ⟨q, hq, hqp⟩ := behind_to H W1 9 (Txt.slice p (some ((Txt.slice c.2 (some (k : Int)) none).length : Int)) none) l hl' (by rw [len_tl, hd]; omega) (by rw [len_tl, hd]; rw [← len_tl] at hlt; omega) (by rw [hd]; exact hp)
        refine ⟨c.1 ++ q, List.mem_flatMap.mpr ⟨c, hc, ?_⟩, ?_⟩
        · unfold spansG
          refine List.mem_append_right _ (List.mem_flatMap.mpr ⟨k, List.mem_range.mpr (by rw [len_tl]; exact hk), ?_⟩)
          unfold cutsG
          rw [if_pos ⟨by rw [htl, len_tl]; exact hlt, sw_iff.mpr (by rw [ht]; exact ⟨r, hr⟩)⟩]
          exact List.mem_map.mpr ⟨q, hq, rfl⟩
        · rw [tl_append, tx_cons]
          exact ((List.prefix_append_right_inj _).mpr hqp).isInfix
      · have hcp : tl p <+: (tl c.2).drop k := List.prefix_of_prefix_length_le hp (List.prefix_append _ _) hge
        refine ⟨c.1, List.mem_flatMap.mpr ⟨c, hc, ?_⟩, (List.prefix_append _ _).isInfix⟩
        unfold spansG
        refine List.mem_append_left _ ?_
        rw [if_pos (isIn_iff.mpr (hcp.isInfix.trans (List.drop_suffix _ _).isInfix))]
        simp

theorem spans_pre {b : Bool} {cs : List (Str × Str)} (H : Codes b cs) {p : Str} {l : List (Str × Str)} (hl : ∀ c ∈ l, c ∈ cs) {q : Str} (hq : q ∈ cs.flatMap (spansG cs p)) (hp : tl q <+: tx l) : tl p <:+: wr l := by
  obtain ⟨c, hc, hq⟩ := List.mem_flatMap.mp hq
  unfold spansG at hq
  rcases List.mem_append.mp hq with hq | hq
  · split at hq
    · rename_i hs
      simp at hq
      subst hq
      obtain ⟨l', rfl, _⟩ := head_eq H hl hc (r := []) (by rw [List.append_nil]; exact hp)
      rw [wr_cons]
      exact (isIn_iff.mp hs).trans (List.prefix_append _ _).isInfix
    · simp at hq
  · obtain ⟨k, hk, hq⟩ := List.mem_flatMap.mp hq
    unfold cutsG at hq
    split at hq
    · rename_i hs
      obtain ⟨q', hq', rfl⟩ := List.mem_map.mp hq
      rw [tl_append] at hp
      obtain ⟨l', rfl, hp'⟩ := head_eq H hl hc hp
      have := behind_of H 9 _ l' (fun d hd => hl d (.tail _ hd)) q' hq' hp'
      obtain ⟨r, hr⟩ := sw_iff.mp hs.2
      rw [sl_from, ← hr, len_tl, List.drop_left] at this
      rw [wr_cons, ← hr, sl_from]
      have e : tl c.2 = (tl c.2).take k ++ (tl c.2).drop k := (List.take_append_drop _ _).symm
      obtain ⟨v, hv⟩ := this
      refine ⟨(tl c.2).take k, v, ?_⟩
      rw [← hv]
      conv => rhs; rw [e]
      simp only [List.append_assoc]
    · simp at hq

theorem spans_of {b : Bool} {cs : List (Str × Str)} (H : Codes b cs) {p q : Str} (hq : q ∈ cs.flatMap (spansG cs p)) (hq0 : tl q ≠ []) : ∀ (l : List (Str × Str)), (∀ c ∈ l, c ∈ cs) → tl q <:+: tx l → tl p <:+: wr l
  | [], _, hp => absurd (List.infix_nil.mp hp) hq0
  | c :: l, hl, hp => by
    obtain ⟨d, h1, h2⟩ := one_ch (H.one c (hl c (.head _)))
    rw [tx_cons, h2, List.singleton_append, List.infix_cons_iff] at hp
    rcases hp with hp | hp
    · exact spans_pre H hl hq (by rw [tx_cons, h2]; exact hp)
    · have := spans_of H hq hq0 l (fun d hd => hl d (.tail _ hd)) hp
      rw [wr_cons]
      exact this.trans (List.suffix_append _ _).isInfix

theorem spans_ne {b : Bool} {cs : List (Str × Str)} (H : Codes b cs) {p q : Str} (hq : q ∈ cs.flatMap (spansG cs p)) : tl q ≠ [] := by
  obtain ⟨c, hc, hq⟩ := List.mem_flatMap.mp hq
  obtain ⟨d, h1, h2⟩ := one_ch (H.one c hc)
  unfold spansG at hq
  rcases List.mem_append.mp hq with hq | hq
  · split at hq
    · simp at hq; subst hq; rw [h2]; simp
    · simp at hq
  · obtain ⟨k, hk, hq⟩ := List.mem_flatMap.mp hq
    unfold cutsG at hq
    split at hq
    · obtain ⟨q', hq', rfl⟩ := List.mem_map.mp hq
      rw [tl_append, h2]; simp
    · simp at hq

theorem plain2 {b : Bool} {cs : List (Str × Str)} (H : Codes b cs) {t p : Str} {k : Nat} (ht : TextOf cs k t) (hp : p.length ≤ 9) : isIn p (escF b t) = toldF cs p t := by
  obtain ⟨l, hl, _, he⟩ := ht
  have W1 : ∀ c ∈ cs, 1 ≤ c.2.length := fun c hc => by
    have := wrote_len b (H.one c hc)
    rw [← H.wrt c hc] at this
    exact this.1
  have hw := esc_wr H hl he
  rw [Bool.eq_iff_iff, isIn_iff, hw]
  unfold toldF
  rw [List.any_eq_true]
  by_cases h0 : p = Str.ofString ""
  · subst h0
    have e0 : tl (Str.ofString "") = [] := by decide +kernel
    rw [e0]
    refine ⟨fun _ => ⟨Str.ofString "", ?_, isIn_iff.mpr (by rw [e0]; exact List.nil_infix)⟩, fun _ => List.nil_infix⟩
    unfold spansF
    rw [if_pos rfl]; simp
  · have h1 : 1 ≤ p.length := by
      rcases Nat.eq_zero_or_pos p.length with q | q
      · exfalso
        rw [len_tl] at q
        exact h0 (tl_inj (by rw [List.length_eq_zero_iff.mp q]; decide +kernel))
      · exact q
    have e : spansF cs p = cs.flatMap (spansG cs p) := by unfold spansF; rw [if_neg h0]
    rw [e]
    constructor
    · intro h
      obtain ⟨q, hq, hqp⟩ := spans_to H W1 hp h1 l hl h
      exact ⟨q, hq, isIn_iff.mpr (by rw [he]; exact hqp)⟩
    · rintro ⟨q, hq, hqp⟩
      exact spans_of H hq (spans_ne H hq) l hl (by have := isIn_iff.mp hqp; rw [he] at this; exact this)
end Mine

namespace Mine

def FnIn (K : Frag) (p : Program) (i : Nat) (dV : Value) (f : Addr) : Prop :=
  ∃ oc od osl name qual kV doc pm an cdv ct, K.lookup f = some ⟨oc, od, .func (fnOf name qual (paramsOf p i) (bodyOf p i) (scopeOf p i) dV kV doc pm an cdv ct), osl⟩ ∧ codeIn K cdv qual = true
theorem FnIn.fn {K : Frag} {h : Heap} {p : Program} {i : Nat} {dV : Value} {f : Addr} (X : K.In h) (F : FnIn K p i dV f) : Fn h p i dV f := by
  obtain ⟨oc, od, osl, name, qual, kV, doc, pm, an, cdv, ct, h1, h2⟩ := F
  exact ⟨oc, od, osl, name, qual, kV, doc, pm, an, cdv, ct, X _ _ h1, codeRec_of X h2⟩

section
variable {w : World} {A : Around} {E : Value → Shared → Prop} {h₀ : Heap} {mg mb : Str → Option Value} {g : Shared} {z z' : PHeap} {L : Addr} {K Gs : List Str} {vals : List (Option Value)} {ms : List (Addr × Obj)} {s : Shared} {env : Env}

theorem law_all {sl c : Addr} {oc : Obj} {svs : List Value} {sns : List Int} {Q : Flow → Shared → Prop} (G : G2 h₀ mg mb) (hh : A.handled = none) (hd : A.depth ≤ 500) (O : EnvOk env L K2 Gs2)
    (hcl : env.kindOf (Str.ofString "codes") = some .cell) (hcc : env.cells.lookup (Str.ofString "codes") = some c) (hoc : oc.data = .cell none)
    (S : St h₀ g z L K2 [some (.ref sl), none, none, none, none, none, none, none, none, none, none, none, none, none, none, none, none, none] [(c, oc)] s)
    (hz : zList z sl svs) (hi : IntsAre svs sns) (hl : sns.length ≤ 63) (h : ∀ s', Keeps g s' → Q (.ret (.bool true)) s') :
    wpAny (model P2 w) A (execs (bodyOf P2 6) env) Q E s := by
  with_reducible refine seg_a G hh O S hz hi hl ?_
  clear S hz
  intro z₁ s₁ D vs ns n x le₁ hD S
  with_reducible refine seg_b G hh hd O hcl hcc hoc hD S ?_
  clear S
  intro z₂ s₂ C oc' cs b x y p le₂ hz hco hoc' hC hcn hcs S
  with_reducible refine seg_c G hh O hcl hcc hD hz hco hoc' hC hcn hcs S ?_
  clear S
  intro z₃ s₃ Dp Dt Dl p0 p1 t0 t1 t2 t3 n0 n1 n2 y2 y3 y4 le₃ hp0 hp1 hzp hzt hzl S
  have hco3 := le₃ _ _ hco
  have hC3 := hC.mono le₃
  with_reducible refine seg_d G hh O hcl hcc hco3 hoc' hC3 hcn hcs hzt hzl S ?_
  clear S
  intro z₄ s₄ Dt' tvs ts n1' y5 y6 le₄ hts htn htx hzt' S
  have hco4 := le₄ _ _ hco3
  have hC4 := hC3.mono le₄
  have hsm := smallOf hcn hcs
  have hzp4 := le₄ _ _ hzp
  with_reducible refine seg_e1 G hh hd O hcl hcc hco4 hoc' hC4 hsm hp0 hp1 hzp4 S ?_
  clear S
  intro z₅ s₅ Ds acc na le₅ hacc hsp hzs S
  have hzp5 := le₅ _ _ hzp4
  have hzt5 := le₅ _ _ hzt'
  have hln : ∀ t ∈ ts, t.length ≤ 3 := fun t ht => (htx t ht).len fun c hc => (hcs c hc).1
  with_reducible refine seg_e2 G hh hd O hp0 hp1 hzp5 hacc hsp hzs hts hln hzt5 ?_ S h
  intro t ht p hp
  refine plain2 ⟨fun c hc => (hcs c hc).1, fun c hc => (hcs c hc).2⟩ (htx t ht) ?_
  simp at hp
  rcases hp with rfl | rfl <;> assumption

theorem sc6 : (∀ x ∈ K2, (scopeOf P2 6).names.lookup x = some .local) ∧ (∀ x ∈ Gs2, (scopeOf P2 6).names.lookup x = some .globalImplicit) ∧ K2.Nodup ∧ ("__debug__" : Str) ∉ K2 ∧ ("__debug__" : Str) ∉ Gs2 := by
  refine ⟨?_, ?_, ?_, ?_, ?_⟩ <;> decide +kernel
theorem envC_ok {name : Str} {a : Addr} {cd : Value} : EnvOk (envOfC name (scopeOf P2 6) L a cd) L K2 Gs2 := ⟨rfl, rfl, rfl, rfl, sc6.1, sc6.2.1, sc6.2.2.1, sc6.2.2.2.1, sc6.2.2.2.2⟩
theorem envC_cell {name : Str} {a : Addr} {cd : Value} : (envOfC name (scopeOf P2 6) L a cd).kindOf (Str.ofString "codes") = some .cell := by
  show (scopeOf P2 6).names.lookup (Str.ofString "codes") = some .cell
  decide +kernel
theorem envC_script {name : Str} {a : Addr} {cd : Value} : (envOfC name (scopeOf P2 6) L a cd).kindOf (Str.ofString "script") = some .local := by
  show (scopeOf P2 6).names.lookup (Str.ofString "script") = some .local
  decide +kernel
theorem envC_cells {name : Str} {a : Addr} {cd : Value} : (envOfC name (scopeOf P2 6) L a cd).cells.lookup (Str.ofString "codes") = some (L + 1) := by
  show (cellsFrom (L + 1) (scopeOf P2 6).names []).lookup (Str.ofString "codes") = some (L + 1)
  rfl
theorem bindL_K2 {name : Str} {a : Addr} {cd v : Value} : bindL (envOfC name (scopeOf P2 6) L a cd).kindOf [(Str.ofString "script", v)] (fun _ => none) = mOf K2 [some v, none, none, none, none, none, none, none, none, none, none, none, none, none, none, none, none, none] := by
  unfold bindL bindL
  rw [if_pos envC_script]
  funext y
  show (if y = Str.ofString "script" then some v else none) = if y = Str.ofString "script" then some v else mOf _ (List.replicate 17 none) y
  rw [mOf_none]
theorem bindC_K2 {name : Str} {a : Addr} {cd v : Value} {y : Str} : bindC (envOfC name (scopeOf P2 6) L a cd).kindOf [(Str.ofString "script", v)] (fun _ => none) y = none := by
  unfold bindC bindC
  rw [if_pos envC_script]

theorem stC {s₁ : Shared} {h₁ : Heap} {oc : Obj} {m : Str → Option Value} (F : Fr s₁.heap s₁.heap.objs.size h₁ m) (N : News s₁.heap s₁.heap.objs.size h₁ [(s₁.heap.objs.size + 1, oc)]) (hm : m = mOf K vals) :
    ∀ tk, St s₁.heap s₁ s₁.heap.get? s₁.heap.objs.size K vals [(s₁.heap.objs.size + 1, oc)] { s₁ with heap := h₁, toks := tk } := by
  intro tk
  have S := St.start (h₀ := s₁.heap) (s := s₁) (tk := tk) (Le.refl _) F.ns F.keep hm
  refine ⟨S.sh, S.ns, S.keep, S.zL, S.gL, fun p hp => ?_, by simp, S.zg, S.sz, S.h0⟩
  simp at hp
  subst hp
  have P := N _ (.head _)
  exact ⟨P.1, P.2.1, P.2.2, Nat.le_succ _⟩

theorem goodW_keeps {c : ClaimW} {cl : Str → Option Addr} {mean : ExcName → Option Value} {args : List WData} {s₁ s' : Shared} {b : Bool} (k : Keeps s₁ s') (hg : s₁.gens = #[]) (hn : ∀ cls, c.raises args cls = false) (hp : c.post args (.bool b) args = true) :
    GoodW c cl mean args s₁ (.ok (.ret (.bool b))) s' := by
  obtain ⟨h, tk, e⟩ := k.sh
  have := k.le
  subst e
  exact ⟨.inl ⟨.bool b, .bool b, [], rfl, hn, .bool b, hp, unshared_nil⟩, this, rfl, hg⟩
end
end Mine

open Mine in
set_option maxHeartbeats 8000000 in
theorem PySem.Challenge.cw_sn0004_02_holds : PySem.Challenge.rw_sn0004_02.Holds := by
  w_on
  o_law
  k_head
  case hw => w_witness2
  w_strict (k_go0; (all_goals try k_fold)
            with_reducible rename Frag.In _ _ => KX
            with_reducible rename Top _ _ _ _ _ _ => T
            with_reducible rename Fr _ _ _ _ => F
            with_reducible rename News _ _ _ _ => N
            with_reducible rename Heap.IsList _ _ _ => hL
            with_reducible rename IntsAre _ _ => hI
            with_reducible rename ¬ (_ < _) => hcond
            have lim := T.nolimit
            have gn := T.g
            have bn := T.b
            have e1 := mg_of (n := Str.ofString "escape") (v := .ref 22) KX T.g rfl
            have e2 := mg_of (n := Str.ofString "_law_wrote") (v := .ref 29) KX T.g rfl
            have e3 := mg_of (n := Str.ofString "_law_behind") (v := .ref 36) KX T.g rfl
            have e4 := mg_of (n := Str.ofString "_law_spans") (v := .ref 43) KX T.g rfl
            have e5 := mg_none_of (n := Str.ofString "len") KX T.g rfl
            have e6 := mg_none_of (n := Str.ofString "range") KX T.g rfl
            have e7 := T.builtins (Str.ofString "len") (by decide)
            have e8 := T.builtins (Str.ofString "range") (by decide)
            have f1 := FnIn.fn (p := P2) (i := 1) (dV := .ref 15) (f := 22) KX ⟨_, _, _, _, _, _, _, _, _, _, _, rfl, rfl⟩
            have f2 := FnIn.fn (p := P2) (i := 3) (dV := .none) (f := 29) KX ⟨_, _, _, _, _, _, _, _, _, _, _, rfl, rfl⟩
            have f3 := FnIn.fn (p := P2) (i := 4) (dV := .none) (f := 36) KX ⟨_, _, _, _, _, _, _, _, _, _, _, rfl, rfl⟩
            have f4 := FnIn.fn (p := P2) (i := 5) (dV := .none) (f := 43) KX ⟨_, _, _, _, _, _, _, _, _, _, _, rfl, rfl⟩
            have d15 := KX 15 (tupOf #[.bool true]) rfl
            have G : G2 _ _ _ := ⟨lim, gn, bn, e1, e2, e3, e4, e5, e6, e7.trans rfl, e8.trans rfl, f1, d15, f2, f3, f4⟩
            clear lim gn bn e1 e2 e3 e4 e5 e6 e7 e8 f1 f2 f3 f4 d15
            with_reducible rename (Obj.data _ = Data.cell _) => hoc0
            with_reducible rename ((PySem.Shared.gens _) = _) => hg
            have hoc := Eq.trans hoc0 (congrArg Data.cell bindC_K2)
            have S := stC (vals := [some (.ref _), none, none, none, none, none, none, none, none, none, none, none, none, none, none, none, none, none]) F N bindL_K2
            have hz : zList _ _ _ := hL
            have hlen : (_ : List Int).length ≤ 63 := Int.ofNat_le.mp (Int.not_lt.mp hcond)
            show wpAny (model P2 _) _ (execs (bodyOf P2 6) (envOfC _ (scopeOf P2 6) _ _ _)) _ _ _
            with_reducible refine law_all (env := envOfC _ (scopeOf P2 6) _ _ _) G ?hh ?hd envC_ok envC_cell envC_cells hoc (S _) hz hI hlen ?hend
            case hh => rfl
            case hd => exact Nat.le_of_ble_eq_true rfl
            case hend =>
              intro s' k
              show GoodW _ _ _ _ _ (.ok (.ret (.bool true))) _
              refine goodW_keeps k hg (raisesW_false ?_) ?_
              · wrow_none_raised
              · first | wrow_post | kc_post)
