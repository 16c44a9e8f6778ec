import PyProof.Rows.All
import Wide.All
import OpenK.AllK
import Wide.FinOn
import PySem.Challenge.RW_sn0004_01
open PySem PySem.W PyProof.Rows PySem.Calls
set_option maxRecDepth 100000
set_option Elab.async false

namespace Mine
abbrev PHeap := Addr → Option Obj
def Le (z z' : PHeap) : Prop := ∀ b o, z b = some o → z' b = some o
theorem Le.refl (z : PHeap) : Le z z := fun _ _ e => e
theorem Le.trans {a b c : PHeap} (x : Le a b) (y : Le b c) : Le a c := fun _ _ e => y _ _ (x _ _ e)

def mOf : List Str → List (Option Value) → Str → Option Value
  | k :: ks, v :: vs, y => if y = k then v else mOf ks vs y
  | _, _, _ => none

theorem mOf_get : ∀ {K : List Str} {vals : List (Option Value)} {i : Nat} {x : Str} {v : Option Value}, K.Nodup → K[i]? = some x → vals[i]? = some v → mOf K vals x = v
  | [], _, _, _, _, _, hk, _ => by simp at hk
  | _ :: _, [], _, _, _, _, _, hv => by simp at hv
  | k :: ks, w :: vs, 0, x, v, _, hk, hv => by
    simp at hk hv; subst hk; subst hv; simp [mOf]
  | k :: ks, w :: vs, i + 1, x, v, hn, hk, hv => by
    have hne : x ≠ k := by
      rintro rfl
      have : x ∈ ks := List.mem_of_getElem? (by simpa using hk)
      exact (List.nodup_cons.mp hn).1 this
    simp only [mOf, if_neg hne]
    exact mOf_get (List.nodup_cons.mp hn).2 (by simpa using hk) (by simpa using hv)

theorem mOf_set : ∀ {K : List Str} {vals : List (Option Value)} {i : Nat} {x : Str} {v : Option Value}, K.Nodup → K[i]? = some x → i < vals.length →
    mOf K (vals.set i v) = fun y => if y = x then v else mOf K vals y
  | [], _, _, _, _, _, hk, _ => by simp at hk
  | _ :: _, [], _, _, _, _, _, hv => by simp at hv
  | k :: ks, w :: vs, 0, x, v, _, hk, _ => by
    simp at hk; subst hk; funext y; simp only [List.set, mOf]; split <;> simp [*]
  | k :: ks, w :: vs, i + 1, x, v, hn, hk, hv => by
    have hne : x ≠ k := by
      rintro rfl
      have : x ∈ ks := List.mem_of_getElem? (by simpa using hk)
      exact (List.nodup_cons.mp hn).1 this
    funext y
    simp only [List.set, mOf]
    rw [mOf_set (List.nodup_cons.mp hn).2 (by simpa using hk) (by simpa using hv)]
    by_cases h1 : y = k
    · subst h1; simp [Ne.symm hne]
    · simp [h1]

/-- the state within one frame: g the state at the call, z what stays, L the locals, ms what this frame has made and may turn -/
structure St (h₀ : Heap) (g : Shared) (z : PHeap) (L : Addr) (K : List Str) (vals : List (Option Value)) (ms : List (Addr × Obj)) (s : Shared) : Prop where
  sh : ∃ h tk, s = { g with heap := h, toks := tk }
  ns : s.heap.Ns L (mOf K vals)
  keep : Le z s.heap.get?
  zL : z L = none
  gL : g.heap.objs.size ≤ L
  own : ∀ p ∈ ms, s.heap.get? p.1 = some p.2 ∧ p.1 ≠ L ∧ z p.1 = none ∧ g.heap.objs.size ≤ p.1
  nd : (ms.map (·.1)).Nodup
  zg : Le g.heap.get? z
  sz : g.heap.objs.size ≤ s.heap.objs.size
  h0 : Le h₀.get? g.heap.get?

structure EnvOk (env : Env) (L : Addr) (K Gs : List Str) : Prop where
  kind : env.scope.kind = .function
  loc : env.locals = L
  glob : env.globals = mainGlobals
  blt : env.builtins = builtinsNs
  kl : ∀ x ∈ K, env.kindOf x = some .local
  kg : ∀ x ∈ Gs, env.kindOf x = some .globalImplicit
  nd : K.Nodup
  nb : ("__debug__" : Str) ∉ K
  ng : ("__debug__" : Str) ∉ Gs

section
variable {h₀ : Heap} {g : Shared} {z z' : PHeap} {L : Addr} {K Gs : List Str} {vals : List (Option Value)} {ms : List (Addr × Obj)} {s : Shared}

theorem St.base (S : St h₀ g z L K vals ms s) : Le h₀.get? s.heap.get? := (S.h0.trans S.zg).trans S.keep
theorem St.baseZ (S : St h₀ g z L K vals ms s) : Le h₀.get? z := S.h0.trans S.zg

theorem St.tok (S : St h₀ g z L K vals ms s) (k : Nat) : St h₀ g z L K vals ms { s with toks := k } := by
  obtain ⟨h, tk, e⟩ := S.sh
  exact ⟨⟨h, k, by rw [e]⟩, S.ns, S.keep, S.zL, S.gL, S.own, S.nd, S.zg, S.sz, S.h0⟩

theorem St.push (S : St h₀ g z L K vals ms s) (o : Obj) : St h₀ g z L K vals ms { s with heap := s.heap.push o } := by
  obtain ⟨h, tk, e⟩ := S.sh
  refine ⟨⟨_, s.toks, by rw [e]⟩, S.ns.push o, fun b ob hb => Heap.get?_push_of_some o (S.keep b ob hb), S.zL, S.gL, fun p hp => ?_, S.nd, S.zg, ?_, S.h0⟩
  · obtain ⟨a, b, c, d⟩ := S.own p hp
    exact ⟨Heap.get?_push_of_some o a, b, c, d⟩
  · show g.heap.objs.size ≤ (s.heap.push o).objs.size
    rw [Heap.size_push]; exact Nat.le_succ_of_le S.sz

theorem St.L_lt (S : St h₀ g z L K vals ms s) : L < s.heap.objs.size := S.ns.lt
theorem St.alloc (S : St h₀ g z L K vals ms s) {o : Obj} (ho : o.isFreed = false) : St h₀ g z L K vals ((s.heap.objs.size, o) :: ms) { s with heap := s.heap.push o } := by
  have P := S.push o
  have nz : z s.heap.objs.size = none := by
    cases q : z s.heap.objs.size with
    | none => rfl
    | some x => exact absurd (Heap.lt_size (S.keep _ _ q)) (Nat.lt_irrefl _)
  refine ⟨P.sh, P.ns, P.keep, P.zL, P.gL, fun p hp => ?_, ?_, P.zg, P.sz, P.h0⟩
  · rcases List.mem_cons.mp hp with rfl | hp
    · exact ⟨Heap.get?_push_size _ ho, Nat.ne_of_gt S.L_lt, nz, S.sz⟩
    · exact P.own p hp
  · rw [List.map_cons, List.nodup_cons]
    refine ⟨fun hm => ?_, S.nd⟩
    obtain ⟨p, hp, e⟩ := List.mem_map.mp hm
    have := Heap.lt_size (S.own p hp).1
    rw [e] at this
    exact absurd this (Nat.lt_irrefl _)

/-- something of the frame's own is turned -/
theorem St.upd {pre post : List (Addr × Obj)} {D : Addr} {o o' : Obj} {h' : Heap} (S : St h₀ g z L K vals (pre ++ (D, o) :: post) s) (hs : Heap.SameBut D s.heap h') (ho : h'.get? D = some o') :
    St h₀ g z L K vals (pre ++ (D, o') :: post) { s with heap := h' } := by
  obtain ⟨h, tk, e⟩ := S.sh
  have D0 := S.own (D, o) (by simp)
  have nd := S.nd
  refine ⟨⟨_, s.toks, by rw [e]⟩, S.ns.sameBut hs (Ne.symm D0.2.1), fun b ob hb => (hs.2 b ?_).trans (S.keep b ob hb), S.zL, S.gL, fun p hp => ?_, ?_, S.zg, ?_, S.h0⟩
  · rintro rfl; rw [D0.2.2.1] at hb; cases hb
  · rcases List.mem_append.mp hp with q | q
    · have P := S.own p (List.mem_append_left _ q)
      refine ⟨(hs.2 _ fun e => ?_).trans P.1, P.2⟩
      rw [List.map_append, List.map_cons] at nd
      have := (List.nodup_append.mp nd).2.2 p.1 (List.mem_map_of_mem q) D (by simp)
      exact this e
    · rcases List.mem_cons.mp q with rfl | q
      · exact ⟨ho, D0.2⟩
      · have P := S.own p (List.mem_append_right _ (.tail _ q))
        refine ⟨(hs.2 _ fun e => ?_).trans P.1, P.2⟩
        rw [List.map_append, List.map_cons] at nd
        have := (List.nodup_cons.mp (List.nodup_append.mp nd).2.1).1
        exact this (List.mem_map.mpr ⟨p, q, e⟩)
  · simpa using nd
  · show g.heap.objs.size ≤ h'.objs.size
    rw [hs.1]; exact S.sz

theorem St.drop {p : Addr × Obj} (S : St h₀ g z L K vals (p :: ms) s) : St h₀ g z L K vals ms s :=
  ⟨S.sh, S.ns, S.keep, S.zL, S.gL, fun q hq => S.own q (.tail _ hq), (List.nodup_cons.mp S.nd).2, S.zg, S.sz, S.h0⟩
theorem St.sub {ms' : List (Addr × Obj)} (S : St h₀ g z L K vals ms s) (h : ms'.Sublist ms) : St h₀ g z L K vals ms' s :=
  ⟨S.sh, S.ns, S.keep, S.zL, S.gL, fun q hq => S.own q (h.subset hq), S.nd.sublist (h.map _), S.zg, S.sz, S.h0⟩
theorem St.perm {ms' : List (Addr × Obj)} (S : St h₀ g z L K vals ms s) (h : ms'.Perm ms) : St h₀ g z L K vals ms' s :=
  ⟨S.sh, S.ns, S.keep, S.zL, S.gL, fun q hq => S.own q (h.mem_iff.mp hq), (h.map (·.1)).nodup_iff.mpr S.nd, S.zg, S.sz, S.h0⟩
theorem St.swap {p q : Addr × Obj} (S : St h₀ g z L K vals (p :: q :: ms) s) : St h₀ g z L K vals (q :: p :: ms) s := S.perm (.swap _ _ _)

/-- what is new since n -/
def nw (n : Nat) (h : PHeap) : PHeap := fun b => if n ≤ b then h b else none
theorem nw_le (n : Nat) (h : PHeap) : Le (nw n h) h := fun b o e => by
  unfold nw at e; split at e
  · exact e
  · cases e
theorem nw_mono {n : Nat} {h h' : PHeap} (x : Le h h') : Le (nw n h) (nw n h') := fun b o e => by
  unfold nw at e ⊢; split at e
  · rename_i q; rw [if_pos q]; exact x _ _ e
  · cases e
theorem nw_le_nw {n m : Nat} {h : PHeap} (x : n ≤ m) : Le (nw m h) (nw n h) := fun b o e => by
  unfold nw at e ⊢; split at e
  · rename_i q; rw [if_pos (Nat.le_trans x q)]; exact e
  · cases e
theorem nw_get {n : Nat} {h : PHeap} {b : Addr} {o : Obj} (hb : n ≤ b) (e : h b = some o) : nw n h b = some o := by unfold nw; rw [if_pos hb]; exact e

def zset (z : PHeap) (a : Addr) (o : Obj) : PHeap := fun b => if b = a then some o else z b
theorem zset_self {z : PHeap} {a : Addr} {o : Obj} : zset z a o a = some o := if_pos rfl
theorem zset_ne {z : PHeap} {a b : Addr} {o : Obj} (h : b ≠ a) : zset z a o b = z b := if_neg h
/-- the first of the frame's own objects turns no more -/
theorem St.freeze {p : Addr × Obj} (S : St h₀ g z L K vals (p :: ms) s) : ∃ z', Le z z' ∧ z' p.1 = some p.2 ∧ nw g.heap.objs.size z' p.1 = some p.2 ∧ St h₀ g z' L K vals ms s := by
  obtain ⟨a, o⟩ := p
  have P := S.own (a, o) (.head _)
  have ne : ∀ q ∈ ms, q.1 ≠ a := fun q hq e => (List.nodup_cons.mp S.nd).1 (List.mem_map.mpr ⟨q, hq, e⟩)
  have le : Le z (zset z a o) := fun b ob hb => by
    by_cases e : b = a
    · rw [e, P.2.2.1] at hb; cases hb
    · rw [zset_ne e]; exact hb
  refine ⟨zset z a o, le, zset_self, nw_get P.2.2.2 zset_self, ⟨S.sh, S.ns, fun b ob hb => ?_, ?_, S.gL, fun q hq => ?_, (List.nodup_cons.mp S.nd).2, S.zg.trans le, S.sz, S.h0⟩⟩
  · by_cases e : b = a
    · rw [e, zset_self] at hb; cases hb; rw [e]; exact P.1
    · rw [zset_ne e] at hb; exact S.keep b ob hb
  · rw [zset_ne (Ne.symm P.2.1)]; exact S.zL
  · have Q := S.own q (.tail _ hq)
    exact ⟨Q.1, Q.2.1, by rw [zset_ne (ne q hq)]; exact Q.2.2.1, Q.2.2.2⟩

/-- a call that keeps all -/
structure Keeps (s s' : Shared) : Prop where
  sh : ∃ h tk, s' = { s with heap := h, toks := tk }
  le : Le s.heap.get? s'.heap.get?
  sz : s.heap.objs.size ≤ s'.heap.objs.size
theorem St.keeps (S : St h₀ g z L K vals ms s) : Keeps g s := ⟨S.sh, S.zg.trans S.keep, S.sz⟩

def zoff (h : PHeap) (L : Addr) (as : List Addr) : PHeap := fun b => if b = L ∨ b ∈ as then none else h b
theorem zoff_get {h : PHeap} {L b : Addr} {as : List Addr} (h1 : b ≠ L) (h2 : b ∉ as) : zoff h L as b = h b := if_neg (fun x => x.elim h1 h2)
theorem zoff_le {h : PHeap} {L : Addr} {as : List Addr} : Le (zoff h L as) h := fun b o e => by
  unfold zoff at e
  split at e
  · cases e
  · exact e
theorem St.back {s' : Shared} (S : St h₀ g z L K vals ms s) (k : Keeps s s') : ∃ z', Le z z' ∧ Le (nw s.heap.objs.size s'.heap.get?) (nw g.heap.objs.size z') ∧ St h₀ g z' L K vals ms s' := by
  have nz : ∀ b o, z b = some o → b ≠ L ∧ b ∉ ms.map (·.1) := fun b o e => by
    refine ⟨fun q => ?_, fun hm => ?_⟩
    · rw [q, S.zL] at e; cases e
    · obtain ⟨p, hp, q⟩ := List.mem_map.mp hm
      rw [← q, (S.own p hp).2.2.1] at e; cases e
  have le : Le z (zoff s'.heap.get? L (ms.map (·.1))) := fun b o e => by
    rw [zoff_get (nz b o e).1 (nz b o e).2]
    exact k.le _ _ (S.keep _ _ e)
  refine ⟨zoff s'.heap.get? L (ms.map (·.1)), le, fun b o e => ?_, ⟨?_, S.ns.keeps k.le, zoff_le, if_pos (.inl rfl), S.gL, fun p hp => ?_, S.nd, S.zg.trans le, Nat.le_trans S.sz k.sz, S.h0⟩⟩
  · have hb : s.heap.objs.size ≤ b := by
      unfold nw at e; split at e
      · assumption
      · cases e
    have e' := nw_le _ _ _ _ e
    refine nw_get (Nat.le_trans S.sz hb) ?_
    rw [zoff_get (fun q => ?_) fun q => ?_]; exact e'
    · exact absurd S.L_lt (by rw [← q]; exact Nat.not_lt.mpr hb)
    · obtain ⟨p, hp, q⟩ := List.mem_map.mp q
      exact absurd (Heap.lt_size (S.own p hp).1) (by rw [q]; exact Nat.not_lt.mpr hb)
  · obtain ⟨h, tk, e⟩ := S.sh
    obtain ⟨h', tk', e'⟩ := k.sh
    exact ⟨h', tk', by rw [e', e]⟩
  · have P := S.own p hp
    exact ⟨k.le _ _ P.1, P.2.1, if_pos (.inr (List.mem_map_of_mem hp)), P.2.2.2⟩

/-- the start of a call -/
theorem St.start {h₁ : Heap} {tk : Nat} {m : Str → Option Value} (hs : Le h₀.get? s.heap.get?) (hn : h₁.Ns s.heap.objs.size m) (hk : ∀ b o, s.heap.get? b = some o → h₁.get? b = some o) (hm : m = mOf K vals) :
    St h₀ s s.heap.get? s.heap.objs.size K vals [] { s with heap := h₁, toks := tk } := by
  subst hm
  refine ⟨⟨_, _, rfl⟩, hn, hk, ?_, Nat.le_refl _, fun _ h => (nomatch h), List.nodup_nil, Le.refl _, ?_, hs⟩
  · cases q : s.heap.get? s.heap.objs.size with
    | none => rfl
    | some x => exact absurd (Heap.lt_size q) (Nat.lt_irrefl _)
  · exact Nat.le_of_lt hn.lt
end

section
variable {M : Model} {prog : Program} {w : World} {A : Around} {E : Value → Shared → Prop} {h₀ : Heap} {g : Shared} {z z' : PHeap} {L : Addr} {K Gs : List Str} {vals : List (Option Value)} {ms : List (Addr × Obj)} {s : Shared} {env : Env}

theorem ldAt {i : Nat} {x : Str} {pos : Pos} {v : Value} {Q : Value → Shared → Prop} (S : St h₀ g z L K vals ms s) (O : EnvOk env L K Gs) (hk : K[i]? = some x) (hv : vals[i]? = some (some v)) (h : Q v s) :
    wpAny M A (eval (.Name x pos) env) Q E s := by
  have hm := List.mem_of_getElem? hk
  have hd : (x == ("__debug__" : Str)) = false := by
    cases q : x == ("__debug__" : Str) with
    | false => rfl
    | true => exact absurd (eq_of_beq q ▸ hm) O.nb
  exact wpAny_Name (wpAny_loadName_local O.kind (O.kl x hm) (O.loc ▸ S.ns) (mOf_get O.nd hk hv) h) hd

theorem stAt {i : Nat} {x : Str} {v : Value} {Q : Unit → Shared → Prop} (S : St h₀ g z L K vals ms s) (O : EnvOk env L K Gs) (hk : K[i]? = some x) (hi : i < vals.length)
    (h : ∀ s', 0 < s'.toks → St h₀ g z L K (vals.set i (some v)) ms s' → Q () s') : wpAny M A (storeName env x v) Q E s := by
  have hm := List.mem_of_getElem? hk
  obtain ⟨h1, tk, e⟩ := S.sh
  refine wpAny_storeName_local (O.kl x hm) (O.loc ▸ S.ns) (fun h' hn hs => h _ (Nat.succ_pos _) ?_) (by rw [O.kind]; rfl)
  rw [O.loc] at hn hs
  refine ⟨⟨h', _, by rw [e]⟩, by rw [mOf_set O.nd hk hi]; exact hn, fun b o hb => (hs.2 b fun q => ?_).trans (S.keep b o hb), S.zL, S.gL, fun p hp => ?_, S.nd, S.zg, ?_, S.h0⟩
  · subst q; rw [S.zL] at hb; cases hb
  · have P := S.own p hp
    exact ⟨(hs.2 _ P.2.1).trans P.1, P.2⟩
  · show g.heap.objs.size ≤ h'.objs.size
    rw [hs.1]; exact S.sz

theorem ldG {x : Str} {pos : Pos} {v : Value} {mg : Str → Option Value} {Q : Value → Shared → Prop} (S : St h₀ g z L K vals ms s) (O : EnvOk env L K Gs) (hx : x ∈ Gs) (hn : h₀.Ns mainGlobals mg) (hv : mg x = some v) (h : Q v s) :
    wpAny M A (eval (.Name x pos) env) Q E s := by
  have hd : (x == ("__debug__" : Str)) = false := by
    cases q : x == ("__debug__" : Str) with
    | false => rfl
    | true => exact absurd (eq_of_beq q ▸ hx) O.ng
  exact Name_function_global O.kind (O.kg x hx) (loadGlobal_global (O.glob ▸ hn.keeps S.base) hv h) hd

theorem ldB {x : Str} {pos : Pos} {v : Value} {mg mb : Str → Option Value} {Q : Value → Shared → Prop} (S : St h₀ g z L K vals ms s) (O : EnvOk env L K Gs) (hx : x ∈ Gs) (hn : h₀.Ns mainGlobals mg) (hv : mg x = none)
    (hb : h₀.Ns builtinsNs mb) (hw : mb x = some v) (h : Q v s) : wpAny M A (eval (.Name x pos) env) Q E s := by
  have hd : (x == ("__debug__" : Str)) = false := by
    cases q : x == ("__debug__" : Str) with
    | false => rfl
    | true => exact absurd (eq_of_beq q ▸ hx) O.ng
  exact Name_function_global O.kind (O.kg x hx) (loadGlobal_builtin (O.glob ▸ hn.keeps S.base) hv (O.blt ▸ hb.keeps S.base) hw h) hd
end
end Mine

namespace Mine
section
variable {M : Model} {prog : Program} {w : World} {A : Around} {E : Value → Shared → Prop} {h₀ : Heap} {g : Shared} {z z' : PHeap} {L : Addr} {K Gs : List Str} {vals : List (Option Value)} {ms : List (Addr × Obj)} {s : Shared} {env : Env}
theorem ld0 {x : Str}  {v : Value} {Kr : List Str} {vr : List (Option Value)} {pos : Pos} {Q : Value → Shared → Prop} (S : St h₀ g z L (x :: Kr) (some v :: vr) ms s) (O : EnvOk env L (x :: Kr) Gs) (h : Q v s) :
    wpAny M A (eval (.Name x pos) env) Q E s := ldAt (i := 0) S O rfl rfl h
theorem st0 {x : Str}  {v : Option Value} {u : Value} {Kr : List Str} {vr : List (Option Value)} {Q : Unit → Shared → Prop} (S : St h₀ g z L (x :: Kr) (v :: vr) ms s) (O : EnvOk env L (x :: Kr) Gs) (h : ∀ s', 0 < s'.toks → St h₀ g z L (x :: Kr) (some u :: vr) ms s' → Q () s') :
    wpAny M A (storeName env x u) Q E s := stAt (i := 0) S O rfl (by simp) h
theorem ld1 {k0 x : Str} {v0 : Option Value} {v : Value} {Kr : List Str} {vr : List (Option Value)} {pos : Pos} {Q : Value → Shared → Prop} (S : St h₀ g z L (k0 :: x :: Kr) (v0 :: some v :: vr) ms s) (O : EnvOk env L (k0 :: x :: Kr) Gs) (h : Q v s) :
    wpAny M A (eval (.Name x pos) env) Q E s := ldAt (i := 1) S O rfl rfl h
theorem st1 {k0 x : Str} {v0 : Option Value} {v : Option Value} {u : Value} {Kr : List Str} {vr : List (Option Value)} {Q : Unit → Shared → Prop} (S : St h₀ g z L (k0 :: x :: Kr) (v0 :: v :: vr) ms s) (O : EnvOk env L (k0 :: x :: Kr) Gs) (h : ∀ s', 0 < s'.toks → St h₀ g z L (k0 :: x :: Kr) (v0 :: some u :: vr) ms s' → Q () s') :
    wpAny M A (storeName env x u) Q E s := stAt (i := 1) S O rfl (by simp) h
theorem ld2 {k0 k1 x : Str} {v0 v1 : Option Value} {v : Value} {Kr : List Str} {vr : List (Option Value)} {pos : Pos} {Q : Value → Shared → Prop} (S : St h₀ g z L (k0 :: k1 :: x :: Kr) (v0 :: v1 :: some v :: vr) ms s) (O : EnvOk env L (k0 :: k1 :: x :: Kr) Gs) (h : Q v s) :
    wpAny M A (eval (.Name x pos) env) Q E s := ldAt (i := 2) S O rfl rfl h
theorem st2 {k0 k1 x : Str} {v0 v1 : Option Value} {v : Option Value} {u : Value} {Kr : List Str} {vr : List (Option Value)} {Q : Unit → Shared → Prop} (S : St h₀ g z L (k0 :: k1 :: x :: Kr) (v0 :: v1 :: v :: vr) ms s) (O : EnvOk env L (k0 :: k1 :: x :: Kr) Gs) (h : ∀ s', 0 < s'.toks → St h₀ g z L (k0 :: k1 :: x :: Kr) (v0 :: v1 :: some u :: vr) ms s' → Q () s') :
    wpAny M A (storeName env x u) Q E s := stAt (i := 2) S O rfl (by simp) h
theorem ld3 {k0 k1 k2 x : Str} {v0 v1 v2 : Option Value} {v : Value} {Kr : List Str} {vr : List (Option Value)} {pos : Pos} {Q : Value → Shared → Prop} (S : St h₀ g z L (k0 :: k1 :: k2 :: x :: Kr) (v0 :: v1 :: v2 :: some v :: vr) ms s) (O : EnvOk env L (k0 :: k1 :: k2 :: x :: Kr) Gs) (h : Q v s) :
    wpAny M A (eval (.Name x pos) env) Q E s := ldAt (i := 3) S O rfl rfl h
theorem st3 {k0 k1 k2 x : Str} {v0 v1 v2 : Option Value} {v : Option Value} {u : Value} {Kr : List Str} {vr : List (Option Value)} {Q : Unit → Shared → Prop} (S : St h₀ g z L (k0 :: k1 :: k2 :: x :: Kr) (v0 :: v1 :: v2 :: v :: vr) ms s) (O : EnvOk env L (k0 :: k1 :: k2 :: x :: Kr) Gs) (h : ∀ s', 0 < s'.toks → St h₀ g z L (k0 :: k1 :: k2 :: x :: Kr) (v0 :: v1 :: v2 :: some u :: vr) ms s' → Q () s') :
    wpAny M A (storeName env x u) Q E s := stAt (i := 3) S O rfl (by simp) h
theorem ld4 {k0 k1 k2 k3 x : Str} {v0 v1 v2 v3 : Option Value} {v : Value} {Kr : List Str} {vr : List (Option Value)} {pos : Pos} {Q : Value → Shared → Prop} (S : St h₀ g z L (k0 :: k1 :: k2 :: k3 :: x :: Kr) (v0 :: v1 :: v2 :: v3 :: some v :: vr) ms s) (O : EnvOk env L (k0 :: k1 :: k2 :: k3 :: x :: Kr) Gs) (h : Q v s) :
    wpAny M A (eval (.Name x pos) env) Q E s := ldAt (i := 4) S O rfl rfl h
theorem st4 {k0 k1 k2 k3 x : Str} {v0 v1 v2 v3 : Option Value} {v : Option Value} {u : Value} {Kr : List Str} {vr : List (Option Value)} {Q : Unit → Shared → Prop} (S : St h₀ g z L (k0 :: k1 :: k2 :: k3 :: x :: Kr) (v0 :: v1 :: v2 :: v3 :: v :: vr) ms s) (O : EnvOk env L (k0 :: k1 :: k2 :: k3 :: x :: Kr) Gs) (h : ∀ s', 0 < s'.toks → St h₀ g z L (k0 :: k1 :: k2 :: k3 :: x :: Kr) (v0 :: v1 :: v2 :: v3 :: some u :: vr) ms s' → Q () s') :
    wpAny M A (storeName env x u) Q E s := stAt (i := 4) S O rfl (by simp) h
theorem ld5 {k0 k1 k2 k3 k4 x : Str} {v0 v1 v2 v3 v4 : Option Value} {v : Value} {Kr : List Str} {vr : List (Option Value)} {pos : Pos} {Q : Value → Shared → Prop} (S : St h₀ g z L (k0 :: k1 :: k2 :: k3 :: k4 :: x :: Kr) (v0 :: v1 :: v2 :: v3 :: v4 :: some v :: vr) ms s) (O : EnvOk env L (k0 :: k1 :: k2 :: k3 :: k4 :: x :: Kr) Gs) (h : Q v s) :
    wpAny M A (eval (.Name x pos) env) Q E s := ldAt (i := 5) S O rfl rfl h
theorem st5 {k0 k1 k2 k3 k4 x : Str} {v0 v1 v2 v3 v4 : Option Value} {v : Option Value} {u : Value} {Kr : List Str} {vr : List (Option Value)} {Q : Unit → Shared → Prop} (S : St h₀ g z L (k0 :: k1 :: k2 :: k3 :: k4 :: x :: Kr) (v0 :: v1 :: v2 :: v3 :: v4 :: v :: vr) ms s) (O : EnvOk env L (k0 :: k1 :: k2 :: k3 :: k4 :: x :: Kr) Gs) (h : ∀ s', 0 < s'.toks → St h₀ g z L (k0 :: k1 :: k2 :: k3 :: k4 :: x :: Kr) (v0 :: v1 :: v2 :: v3 :: v4 :: some u :: vr) ms s' → Q () s') :
    wpAny M A (storeName env x u) Q E s := stAt (i := 5) S O rfl (by simp) h
theorem ld6 {k0 k1 k2 k3 k4 k5 x : Str} {v0 v1 v2 v3 v4 v5 : Option Value} {v : Value} {Kr : List Str} {vr : List (Option Value)} {pos : Pos} {Q : Value → Shared → Prop} (S : St h₀ g z L (k0 :: k1 :: k2 :: k3 :: k4 :: k5 :: x :: Kr) (v0 :: v1 :: v2 :: v3 :: v4 :: v5 :: some v :: vr) ms s) (O : EnvOk env L (k0 :: k1 :: k2 :: k3 :: k4 :: k5 :: x :: Kr) Gs) (h : Q v s) :
    wpAny M A (eval (.Name x pos) env) Q E s := ldAt (i := 6) S O rfl rfl h
theorem st6 {k0 k1 k2 k3 k4 k5 x : Str} {v0 v1 v2 v3 v4 v5 : Option Value} {v : Option Value} {u : Value} {Kr : List Str} {vr : List (Option Value)} {Q : Unit → Shared → Prop} (S : St h₀ g z L (k0 :: k1 :: k2 :: k3 :: k4 :: k5 :: x :: Kr) (v0 :: v1 :: v2 :: v3 :: v4 :: v5 :: v :: vr) ms s) (O : EnvOk env L (k0 :: k1 :: k2 :: k3 :: k4 :: k5 :: x :: Kr) Gs) (h : ∀ s', 0 < s'.toks → St h₀ g z L (k0 :: k1 :: k2 :: k3 :: k4 :: k5 :: x :: Kr) (v0 :: v1 :: v2 :: v3 :: v4 :: v5 :: some u :: vr) ms s' → Q () s') :
    wpAny M A (storeName env x u) Q E s := stAt (i := 6) S O rfl (by simp) h
theorem ld7 {k0 k1 k2 k3 k4 k5 k6 x : Str} {v0 v1 v2 v3 v4 v5 v6 : Option Value} {v : Value} {Kr : List Str} {vr : List (Option Value)} {pos : Pos} {Q : Value → Shared → Prop} (S : St h₀ g z L (k0 :: k1 :: k2 :: k3 :: k4 :: k5 :: k6 :: x :: Kr) (v0 :: v1 :: v2 :: v3 :: v4 :: v5 :: v6 :: some v :: vr) ms s) (O : EnvOk env L (k0 :: k1 :: k2 :: k3 :: k4 :: k5 :: k6 :: x :: Kr) Gs) (h : Q v s) :
    wpAny M A (eval (.Name x pos) env) Q E s := ldAt (i := 7) S O rfl rfl h
theorem st7 {k0 k1 k2 k3 k4 k5 k6 x : Str} {v0 v1 v2 v3 v4 v5 v6 : Option Value} {v : Option Value} {u : Value} {Kr : List Str} {vr : List (Option Value)} {Q : Unit → Shared → Prop} (S : St h₀ g z L (k0 :: k1 :: k2 :: k3 :: k4 :: k5 :: k6 :: x :: Kr) (v0 :: v1 :: v2 :: v3 :: v4 :: v5 :: v6 :: v :: vr) ms s) (O : EnvOk env L (k0 :: k1 :: k2 :: k3 :: k4 :: k5 :: k6 :: x :: Kr) Gs) (h : ∀ s', 0 < s'.toks → St h₀ g z L (k0 :: k1 :: k2 :: k3 :: k4 :: k5 :: k6 :: x :: Kr) (v0 :: v1 :: v2 :: v3 :: v4 :: v5 :: v6 :: some u :: vr) ms s' → Q () s') :
    wpAny M A (storeName env x u) Q E s := stAt (i := 7) S O rfl (by simp) h
theorem ld8 {k0 k1 k2 k3 k4 k5 k6 k7 x : Str} {v0 v1 v2 v3 v4 v5 v6 v7 : Option Value} {v : Value} {Kr : List Str} {vr : List (Option Value)} {pos : Pos} {Q : Value → Shared → Prop} (S : St h₀ g z L (k0 :: k1 :: k2 :: k3 :: k4 :: k5 :: k6 :: k7 :: x :: Kr) (v0 :: v1 :: v2 :: v3 :: v4 :: v5 :: v6 :: v7 :: some v :: vr) ms s) (O : EnvOk env L (k0 :: k1 :: k2 :: k3 :: k4 :: k5 :: k6 :: k7 :: x :: Kr) Gs) (h : Q v s) :
    wpAny M A (eval (.Name x pos) env) Q E s := ldAt (i := 8) S O rfl rfl h
theorem st8 {k0 k1 k2 k3 k4 k5 k6 k7 x : Str} {v0 v1 v2 v3 v4 v5 v6 v7 : Option Value} {v : Option Value} {u : Value} {Kr : List Str} {vr : List (Option Value)} {Q : Unit → Shared → Prop} (S : St h₀ g z L (k0 :: k1 :: k2 :: k3 :: k4 :: k5 :: k6 :: k7 :: x :: Kr) (v0 :: v1 :: v2 :: v3 :: v4 :: v5 :: v6 :: v7 :: v :: vr) ms s) (O : EnvOk env L (k0 :: k1 :: k2 :: k3 :: k4 :: k5 :: k6 :: k7 :: x :: Kr) Gs) (h : ∀ s', 0 < s'.toks → St h₀ g z L (k0 :: k1 :: k2 :: k3 :: k4 :: k5 :: k6 :: k7 :: x :: Kr) (v0 :: v1 :: v2 :: v3 :: v4 :: v5 :: v6 :: v7 :: some u :: vr) ms s' → Q () s') :
    wpAny M A (storeName env x u) Q E s := stAt (i := 8) S O rfl (by simp) h
theorem ld9 {k0 k1 k2 k3 k4 k5 k6 k7 k8 x : Str} {v0 v1 v2 v3 v4 v5 v6 v7 v8 : Option Value} {v : Value} {Kr : List Str} {vr : List (Option Value)} {pos : Pos} {Q : Value → Shared → Prop} (S : St h₀ g z L (k0 :: k1 :: k2 :: k3 :: k4 :: k5 :: k6 :: k7 :: k8 :: x :: Kr) (v0 :: v1 :: v2 :: v3 :: v4 :: v5 :: v6 :: v7 :: v8 :: some v :: vr) ms s) (O : EnvOk env L (k0 :: k1 :: k2 :: k3 :: k4 :: k5 :: k6 :: k7 :: k8 :: x :: Kr) Gs) (h : Q v s) :
    wpAny M A (eval (.Name x pos) env) Q E s := ldAt (i := 9) S O rfl rfl h
theorem st9 {k0 k1 k2 k3 k4 k5 k6 k7 k8 x : Str} {v0 v1 v2 v3 v4 v5 v6 v7 v8 : Option Value} {v : Option Value} {u : Value} {Kr : List Str} {vr : List (Option Value)} {Q : Unit → Shared → Prop} (S : St h₀ g z L (k0 :: k1 :: k2 :: k3 :: k4 :: k5 :: k6 :: k7 :: k8 :: x :: Kr) (v0 :: v1 :: v2 :: v3 :: v4 :: v5 :: v6 :: v7 :: v8 :: v :: vr) ms s) (O : EnvOk env L (k0 :: k1 :: k2 :: k3 :: k4 :: k5 :: k6 :: k7 :: k8 :: x :: Kr) Gs) (h : ∀ s', 0 < s'.toks → St h₀ g z L (k0 :: k1 :: k2 :: k3 :: k4 :: k5 :: k6 :: k7 :: k8 :: x :: Kr) (v0 :: v1 :: v2 :: v3 :: v4 :: v5 :: v6 :: v7 :: v8 :: some u :: vr) ms s' → Q () s') :
    wpAny M A (storeName env x u) Q E s := stAt (i := 9) S O rfl (by simp) h
theorem ld10 {k0 k1 k2 k3 k4 k5 k6 k7 k8 k9 x : Str} {v0 v1 v2 v3 v4 v5 v6 v7 v8 v9 : Option Value} {v : Value} {Kr : List Str} {vr : List (Option Value)} {pos : Pos} {Q : Value → Shared → Prop} (S : St h₀ g z L (k0 :: k1 :: k2 :: k3 :: k4 :: k5 :: k6 :: k7 :: k8 :: k9 :: x :: Kr) (v0 :: v1 :: v2 :: v3 :: v4 :: v5 :: v6 :: v7 :: v8 :: v9 :: some v :: vr) ms s) (O : EnvOk env L (k0 :: k1 :: k2 :: k3 :: k4 :: k5 :: k6 :: k7 :: k8 :: k9 :: x :: Kr) Gs) (h : Q v s) :
    wpAny M A (eval (.Name x pos) env) Q E s := ldAt (i := 10) S O rfl rfl h
theorem st10 {k0 k1 k2 k3 k4 k5 k6 k7 k8 k9 x : Str} {v0 v1 v2 v3 v4 v5 v6 v7 v8 v9 : Option Value} {v : Option Value} {u : Value} {Kr : List Str} {vr : List (Option Value)} {Q : Unit → Shared → Prop} (S : St h₀ g z L (k0 :: k1 :: k2 :: k3 :: k4 :: k5 :: k6 :: k7 :: k8 :: k9 :: x :: Kr) (v0 :: v1 :: v2 :: v3 :: v4 :: v5 :: v6 :: v7 :: v8 :: v9 :: v :: vr) ms s) (O : EnvOk env L (k0 :: k1 :: k2 :: k3 :: k4 :: k5 :: k6 :: k7 :: k8 :: k9 :: x :: Kr) Gs) (h : ∀ s', 0 < s'.toks → St h₀ g z L (k0 :: k1 :: k2 :: k3 :: k4 :: k5 :: k6 :: k7 :: k8 :: k9 :: x :: Kr) (v0 :: v1 :: v2 :: v3 :: v4 :: v5 :: v6 :: v7 :: v8 :: v9 :: some u :: vr) ms s' → Q () s') :
    wpAny M A (storeName env x u) Q E s := stAt (i := 10) S O rfl (by simp) h
theorem ld11 {k0 k1 k2 k3 k4 k5 k6 k7 k8 k9 k10 x : Str} {v0 v1 v2 v3 v4 v5 v6 v7 v8 v9 v10 : Option Value} {v : Value} {Kr : List Str} {vr : List (Option Value)} {pos : Pos} {Q : Value → Shared → Prop} (S : St h₀ g z L (k0 :: k1 :: k2 :: k3 :: k4 :: k5 :: k6 :: k7 :: k8 :: k9 :: k10 :: x :: Kr) (v0 :: v1 :: v2 :: v3 :: v4 :: v5 :: v6 :: v7 :: v8 :: v9 :: v10 :: some v :: vr) ms s) (O : EnvOk env L (k0 :: k1 :: k2 :: k3 :: k4 :: k5 :: k6 :: k7 :: k8 :: k9 :: k10 :: x :: Kr) Gs) (h : Q v s) :
    wpAny M A (eval (.Name x pos) env) Q E s := ldAt (i := 11) S O rfl rfl h
theorem st11 {k0 k1 k2 k3 k4 k5 k6 k7 k8 k9 k10 x : Str} {v0 v1 v2 v3 v4 v5 v6 v7 v8 v9 v10 : Option Value} {v : Option Value} {u : Value} {Kr : List Str} {vr : List (Option Value)} {Q : Unit → Shared → Prop} (S : St h₀ g z L (k0 :: k1 :: k2 :: k3 :: k4 :: k5 :: k6 :: k7 :: k8 :: k9 :: k10 :: x :: Kr) (v0 :: v1 :: v2 :: v3 :: v4 :: v5 :: v6 :: v7 :: v8 :: v9 :: v10 :: v :: vr) ms s) (O : EnvOk env L (k0 :: k1 :: k2 :: k3 :: k4 :: k5 :: k6 :: k7 :: k8 :: k9 :: k10 :: x :: Kr) Gs) (h : ∀ s', 0 < s'.toks → St h₀ g z L (k0 :: k1 :: k2 :: k3 :: k4 :: k5 :: k6 :: k7 :: k8 :: k9 :: k10 :: x :: Kr) (v0 :: v1 :: v2 :: v3 :: v4 :: v5 :: v6 :: v7 :: v8 :: v9 :: v10 :: some u :: vr) ms s' → Q () s') :
    wpAny M A (storeName env x u) Q E s := stAt (i := 11) S O rfl (by simp) h
theorem ld12 {k0 k1 k2 k3 k4 k5 k6 k7 k8 k9 k10 k11 x : Str} {v0 v1 v2 v3 v4 v5 v6 v7 v8 v9 v10 v11 : Option Value} {v : Value} {Kr : List Str} {vr : List (Option Value)} {pos : Pos} {Q : Value → Shared → Prop} (S : St h₀ g z L (k0 :: k1 :: k2 :: k3 :: k4 :: k5 :: k6 :: k7 :: k8 :: k9 :: k10 :: k11 :: x :: Kr) (v0 :: v1 :: v2 :: v3 :: v4 :: v5 :: v6 :: v7 :: v8 :: v9 :: v10 :: v11 :: some v :: vr) ms s) (O : EnvOk env L (k0 :: k1 :: k2 :: k3 :: k4 :: k5 :: k6 :: k7 :: k8 :: k9 :: k10 :: k11 :: x :: Kr) Gs) (h : Q v s) :
    wpAny M A (eval (.Name x pos) env) Q E s := ldAt (i := 12) S O rfl rfl h
theorem st12 {k0 k1 k2 k3 k4 k5 k6 k7 k8 k9 k10 k11 x : Str} {v0 v1 v2 v3 v4 v5 v6 v7 v8 v9 v10 v11 : Option Value} {v : Option Value} {u : Value} {Kr : List Str} {vr : List (Option Value)} {Q : Unit → Shared → Prop} (S : St h₀ g z L (k0 :: k1 :: k2 :: k3 :: k4 :: k5 :: k6 :: k7 :: k8 :: k9 :: k10 :: k11 :: x :: Kr) (v0 :: v1 :: v2 :: v3 :: v4 :: v5 :: v6 :: v7 :: v8 :: v9 :: v10 :: v11 :: v :: vr) ms s) (O : EnvOk env L (k0 :: k1 :: k2 :: k3 :: k4 :: k5 :: k6 :: k7 :: k8 :: k9 :: k10 :: k11 :: x :: Kr) Gs) (h : ∀ s', 0 < s'.toks → St h₀ g z L (k0 :: k1 :: k2 :: k3 :: k4 :: k5 :: k6 :: k7 :: k8 :: k9 :: k10 :: k11 :: x :: Kr) (v0 :: v1 :: v2 :: v3 :: v4 :: v5 :: v6 :: v7 :: v8 :: v9 :: v10 :: v11 :: some u :: vr) ms s' → Q () s') :
    wpAny M A (storeName env x u) Q E s := stAt (i := 12) S O rfl (by simp) h
theorem ld13 {k0 k1 k2 k3 k4 k5 k6 k7 k8 k9 k10 k11 k12 x : Str} {v0 v1 v2 v3 v4 v5 v6 v7 v8 v9 v10 v11 v12 : Option Value} {v : Value} {Kr : List Str} {vr : List (Option Value)} {pos : Pos} {Q : Value → Shared → Prop} (S : St h₀ g z L (k0 :: k1 :: k2 :: k3 :: k4 :: k5 :: k6 :: k7 :: k8 :: k9 :: k10 :: k11 :: k12 :: x :: Kr) (v0 :: v1 :: v2 :: v3 :: v4 :: v5 :: v6 :: v7 :: v8 :: v9 :: v10 :: v11 :: v12 :: some v :: vr) ms s) (O : EnvOk env L (k0 :: k1 :: k2 :: k3 :: k4 :: k5 :: k6 :: k7 :: k8 :: k9 :: k10 :: k11 :: k12 :: x :: Kr) Gs) (h : Q v s) :
    wpAny M A (eval (.Name x pos) env) Q E s := ldAt (i := 13) S O rfl rfl h
theorem st13 {k0 k1 k2 k3 k4 k5 k6 k7 k8 k9 k10 k11 k12 x : Str} {v0 v1 v2 v3 v4 v5 v6 v7 v8 v9 v10 v11 v12 : Option Value} {v : Option Value} {u : Value} {Kr : List Str} {vr : List (Option Value)} {Q : Unit → Shared → Prop} (S : St h₀ g z L (k0 :: k1 :: k2 :: k3 :: k4 :: k5 :: k6 :: k7 :: k8 :: k9 :: k10 :: k11 :: k12 :: x :: Kr) (v0 :: v1 :: v2 :: v3 :: v4 :: v5 :: v6 :: v7 :: v8 :: v9 :: v10 :: v11 :: v12 :: v :: vr) ms s) (O : EnvOk env L (k0 :: k1 :: k2 :: k3 :: k4 :: k5 :: k6 :: k7 :: k8 :: k9 :: k10 :: k11 :: k12 :: x :: Kr) Gs) (h : ∀ s', 0 < s'.toks → St h₀ g z L (k0 :: k1 :: k2 :: k3 :: k4 :: k5 :: k6 :: k7 :: k8 :: k9 :: k10 :: k11 :: k12 :: x :: Kr) (v0 :: v1 :: v2 :: v3 :: v4 :: v5 :: v6 :: v7 :: v8 :: v9 :: v10 :: v11 :: v12 :: some u :: vr) ms s' → Q () s') :
    wpAny M A (storeName env x u) Q E s := stAt (i := 13) S O rfl (by simp) h
theorem ld14 {k0 k1 k2 k3 k4 k5 k6 k7 k8 k9 k10 k11 k12 k13 x : Str} {v0 v1 v2 v3 v4 v5 v6 v7 v8 v9 v10 v11 v12 v13 : Option Value} {v : Value} {Kr : List Str} {vr : List (Option Value)} {pos : Pos} {Q : Value → Shared → Prop} (S : St h₀ g z L (k0 :: k1 :: k2 :: k3 :: k4 :: k5 :: k6 :: k7 :: k8 :: k9 :: k10 :: k11 :: k12 :: k13 :: x :: Kr) (v0 :: v1 :: v2 :: v3 :: v4 :: v5 :: v6 :: v7 :: v8 :: v9 :: v10 :: v11 :: v12 :: v13 :: some v :: vr) ms s) (O : EnvOk env L (k0 :: k1 :: k2 :: k3 :: k4 :: k5 :: k6 :: k7 :: k8 :: k9 :: k10 :: k11 :: k12 :: k13 :: x :: Kr) Gs) (h : Q v s) :
    wpAny M A (eval (.Name x pos) env) Q E s := ldAt (i := 14) S O rfl rfl h
theorem st14 {k0 k1 k2 k3 k4 k5 k6 k7 k8 k9 k10 k11 k12 k13 x : Str} {v0 v1 v2 v3 v4 v5 v6 v7 v8 v9 v10 v11 v12 v13 : Option Value} {v : Option Value} {u : Value} {Kr : List Str} {vr : List (Option Value)} {Q : Unit → Shared → Prop} (S : St h₀ g z L (k0 :: k1 :: k2 :: k3 :: k4 :: k5 :: k6 :: k7 :: k8 :: k9 :: k10 :: k11 :: k12 :: k13 :: x :: Kr) (v0 :: v1 :: v2 :: v3 :: v4 :: v5 :: v6 :: v7 :: v8 :: v9 :: v10 :: v11 :: v12 :: v13 :: v :: vr) ms s) (O : EnvOk env L (k0 :: k1 :: k2 :: k3 :: k4 :: k5 :: k6 :: k7 :: k8 :: k9 :: k10 :: k11 :: k12 :: k13 :: x :: Kr) Gs) (h : ∀ s', 0 < s'.toks → St h₀ g z L (k0 :: k1 :: k2 :: k3 :: k4 :: k5 :: k6 :: k7 :: k8 :: k9 :: k10 :: k11 :: k12 :: k13 :: x :: Kr) (v0 :: v1 :: v2 :: v3 :: v4 :: v5 :: v6 :: v7 :: v8 :: v9 :: v10 :: v11 :: v12 :: v13 :: some u :: vr) ms s' → Q () s') :
    wpAny M A (storeName env x u) Q E s := stAt (i := 14) S O rfl (by simp) h
theorem ld15 {k0 k1 k2 k3 k4 k5 k6 k7 k8 k9 k10 k11 k12 k13 k14 x : Str} {v0 v1 v2 v3 v4 v5 v6 v7 v8 v9 v10 v11 v12 v13 v14 : Option Value} {v : Value} {Kr : List Str} {vr : List (Option Value)} {pos : Pos} {Q : Value → Shared → Prop} (S : St h₀ g z L (k0 :: k1 :: k2 :: k3 :: k4 :: k5 :: k6 :: k7 :: k8 :: k9 :: k10 :: k11 :: k12 :: k13 :: k14 :: x :: Kr) (v0 :: v1 :: v2 :: v3 :: v4 :: v5 :: v6 :: v7 :: v8 :: v9 :: v10 :: v11 :: v12 :: v13 :: v14 :: some v :: vr) ms s) (O : EnvOk env L (k0 :: k1 :: k2 :: k3 :: k4 :: k5 :: k6 :: k7 :: k8 :: k9 :: k10 :: k11 :: k12 :: k13 :: k14 :: x :: Kr) Gs) (h : Q v s) :
    wpAny M A (eval (.Name x pos) env) Q E s := ldAt (i := 15) S O rfl rfl h
theorem st15 {k0 k1 k2 k3 k4 k5 k6 k7 k8 k9 k10 k11 k12 k13 k14 x : Str} {v0 v1 v2 v3 v4 v5 v6 v7 v8 v9 v10 v11 v12 v13 v14 : Option Value} {v : Option Value} {u : Value} {Kr : List Str} {vr : List (Option Value)} {Q : Unit → Shared → Prop} (S : St h₀ g z L (k0 :: k1 :: k2 :: k3 :: k4 :: k5 :: k6 :: k7 :: k8 :: k9 :: k10 :: k11 :: k12 :: k13 :: k14 :: x :: Kr) (v0 :: v1 :: v2 :: v3 :: v4 :: v5 :: v6 :: v7 :: v8 :: v9 :: v10 :: v11 :: v12 :: v13 :: v14 :: v :: vr) ms s) (O : EnvOk env L (k0 :: k1 :: k2 :: k3 :: k4 :: k5 :: k6 :: k7 :: k8 :: k9 :: k10 :: k11 :: k12 :: k13 :: k14 :: x :: Kr) Gs) (h : ∀ s', 0 < s'.toks → St h₀ g z L (k0 :: k1 :: k2 :: k3 :: k4 :: k5 :: k6 :: k7 :: k8 :: k9 :: k10 :: k11 :: k12 :: k13 :: k14 :: x :: Kr) (v0 :: v1 :: v2 :: v3 :: v4 :: v5 :: v6 :: v7 :: v8 :: v9 :: v10 :: v11 :: v12 :: v13 :: v14 :: some u :: vr) ms s' → Q () s') :
    wpAny M A (storeName env x u) Q E s := stAt (i := 15) S O rfl (by simp) h
theorem ld16 {k0 k1 k2 k3 k4 k5 k6 k7 k8 k9 k10 k11 k12 k13 k14 k15 x : Str} {v0 v1 v2 v3 v4 v5 v6 v7 v8 v9 v10 v11 v12 v13 v14 v15 : Option Value} {v : Value} {Kr : List Str} {vr : List (Option Value)} {pos : Pos} {Q : Value → Shared → Prop} (S : St h₀ g z L (k0 :: k1 :: k2 :: k3 :: k4 :: k5 :: k6 :: k7 :: k8 :: k9 :: k10 :: k11 :: k12 :: k13 :: k14 :: k15 :: x :: Kr) (v0 :: v1 :: v2 :: v3 :: v4 :: v5 :: v6 :: v7 :: v8 :: v9 :: v10 :: v11 :: v12 :: v13 :: v14 :: v15 :: some v :: vr) ms s) (O : EnvOk env L (k0 :: k1 :: k2 :: k3 :: k4 :: k5 :: k6 :: k7 :: k8 :: k9 :: k10 :: k11 :: k12 :: k13 :: k14 :: k15 :: x :: Kr) Gs) (h : Q v s) :
    wpAny M A (eval (.Name x pos) env) Q E s := ldAt (i := 16) S O rfl rfl h
theorem st16 {k0 k1 k2 k3 k4 k5 k6 k7 k8 k9 k10 k11 k12 k13 k14 k15 x : Str} {v0 v1 v2 v3 v4 v5 v6 v7 v8 v9 v10 v11 v12 v13 v14 v15 : Option Value} {v : Option Value} {u : Value} {Kr : List Str} {vr : List (Option Value)} {Q : Unit → Shared → Prop} (S : St h₀ g z L (k0 :: k1 :: k2 :: k3 :: k4 :: k5 :: k6 :: k7 :: k8 :: k9 :: k10 :: k11 :: k12 :: k13 :: k14 :: k15 :: x :: Kr) (v0 :: v1 :: v2 :: v3 :: v4 :: v5 :: v6 :: v7 :: v8 :: v9 :: v10 :: v11 :: v12 :: v13 :: v14 :: v15 :: v :: vr) ms s) (O : EnvOk env L (k0 :: k1 :: k2 :: k3 :: k4 :: k5 :: k6 :: k7 :: k8 :: k9 :: k10 :: k11 :: k12 :: k13 :: k14 :: k15 :: x :: Kr) Gs) (h : ∀ s', 0 < s'.toks → St h₀ g z L (k0 :: k1 :: k2 :: k3 :: k4 :: k5 :: k6 :: k7 :: k8 :: k9 :: k10 :: k11 :: k12 :: k13 :: k14 :: k15 :: x :: Kr) (v0 :: v1 :: v2 :: v3 :: v4 :: v5 :: v6 :: v7 :: v8 :: v9 :: v10 :: v11 :: v12 :: v13 :: v14 :: v15 :: some u :: vr) ms s' → Q () s') :
    wpAny M A (storeName env x u) Q E s := stAt (i := 16) S O rfl (by simp) h
theorem ld17 {k0 k1 k2 k3 k4 k5 k6 k7 k8 k9 k10 k11 k12 k13 k14 k15 k16 x : Str} {v0 v1 v2 v3 v4 v5 v6 v7 v8 v9 v10 v11 v12 v13 v14 v15 v16 : Option Value} {v : Value} {Kr : List Str} {vr : List (Option Value)} {pos : Pos} {Q : Value → Shared → Prop} (S : St h₀ g z L (k0 :: k1 :: k2 :: k3 :: k4 :: k5 :: k6 :: k7 :: k8 :: k9 :: k10 :: k11 :: k12 :: k13 :: k14 :: k15 :: k16 :: x :: Kr) (v0 :: v1 :: v2 :: v3 :: v4 :: v5 :: v6 :: v7 :: v8 :: v9 :: v10 :: v11 :: v12 :: v13 :: v14 :: v15 :: v16 :: some v :: vr) ms s) (O : EnvOk env L (k0 :: k1 :: k2 :: k3 :: k4 :: k5 :: k6 :: k7 :: k8 :: k9 :: k10 :: k11 :: k12 :: k13 :: k14 :: k15 :: k16 :: x :: Kr) Gs) (h : Q v s) :
    wpAny M A (eval (.Name x pos) env) Q E s := ldAt (i := 17) S O rfl rfl h
theorem st17 {k0 k1 k2 k3 k4 k5 k6 k7 k8 k9 k10 k11 k12 k13 k14 k15 k16 x : Str} {v0 v1 v2 v3 v4 v5 v6 v7 v8 v9 v10 v11 v12 v13 v14 v15 v16 : Option Value} {v : Option Value} {u : Value} {Kr : List Str} {vr : List (Option Value)} {Q : Unit → Shared → Prop} (S : St h₀ g z L (k0 :: k1 :: k2 :: k3 :: k4 :: k5 :: k6 :: k7 :: k8 :: k9 :: k10 :: k11 :: k12 :: k13 :: k14 :: k15 :: k16 :: x :: Kr) (v0 :: v1 :: v2 :: v3 :: v4 :: v5 :: v6 :: v7 :: v8 :: v9 :: v10 :: v11 :: v12 :: v13 :: v14 :: v15 :: v16 :: v :: vr) ms s) (O : EnvOk env L (k0 :: k1 :: k2 :: k3 :: k4 :: k5 :: k6 :: k7 :: k8 :: k9 :: k10 :: k11 :: k12 :: k13 :: k14 :: k15 :: k16 :: x :: Kr) Gs) (h : ∀ s', 0 < s'.toks → St h₀ g z L (k0 :: k1 :: k2 :: k3 :: k4 :: k5 :: k6 :: k7 :: k8 :: k9 :: k10 :: k11 :: k12 :: k13 :: k14 :: k15 :: k16 :: x :: Kr) (v0 :: v1 :: v2 :: v3 :: v4 :: v5 :: v6 :: v7 :: v8 :: v9 :: v10 :: v11 :: v12 :: v13 :: v14 :: v15 :: v16 :: some u :: vr) ms s' → Q () s') :
    wpAny M A (storeName env x u) Q E s := stAt (i := 17) S O rfl (by simp) h
theorem ld18 {k0 k1 k2 k3 k4 k5 k6 k7 k8 k9 k10 k11 k12 k13 k14 k15 k16 k17 x : Str} {v0 v1 v2 v3 v4 v5 v6 v7 v8 v9 v10 v11 v12 v13 v14 v15 v16 v17 : Option Value} {v : Value} {Kr : List Str} {vr : List (Option Value)} {pos : Pos} {Q : Value → Shared → Prop} (S : St h₀ g z L (k0 :: k1 :: k2 :: k3 :: k4 :: k5 :: k6 :: k7 :: k8 :: k9 :: k10 :: k11 :: k12 :: k13 :: k14 :: k15 :: k16 :: k17 :: x :: Kr) (v0 :: v1 :: v2 :: v3 :: v4 :: v5 :: v6 :: v7 :: v8 :: v9 :: v10 :: v11 :: v12 :: v13 :: v14 :: v15 :: v16 :: v17 :: some v :: vr) ms s) (O : EnvOk env L (k0 :: k1 :: k2 :: k3 :: k4 :: k5 :: k6 :: k7 :: k8 :: k9 :: k10 :: k11 :: k12 :: k13 :: k14 :: k15 :: k16 :: k17 :: x :: Kr) Gs) (h : Q v s) :
    wpAny M A (eval (.Name x pos) env) Q E s := ldAt (i := 18) S O rfl rfl h
theorem st18 {k0 k1 k2 k3 k4 k5 k6 k7 k8 k9 k10 k11 k12 k13 k14 k15 k16 k17 x : Str} {v0 v1 v2 v3 v4 v5 v6 v7 v8 v9 v10 v11 v12 v13 v14 v15 v16 v17 : Option Value} {v : Option Value} {u : Value} {Kr : List Str} {vr : List (Option Value)} {Q : Unit → Shared → Prop} (S : St h₀ g z L (k0 :: k1 :: k2 :: k3 :: k4 :: k5 :: k6 :: k7 :: k8 :: k9 :: k10 :: k11 :: k12 :: k13 :: k14 :: k15 :: k16 :: k17 :: x :: Kr) (v0 :: v1 :: v2 :: v3 :: v4 :: v5 :: v6 :: v7 :: v8 :: v9 :: v10 :: v11 :: v12 :: v13 :: v14 :: v15 :: v16 :: v17 :: v :: vr) ms s) (O : EnvOk env L (k0 :: k1 :: k2 :: k3 :: k4 :: k5 :: k6 :: k7 :: k8 :: k9 :: k10 :: k11 :: k12 :: k13 :: k14 :: k15 :: k16 :: k17 :: x :: Kr) Gs) (h : ∀ s', 0 < s'.toks → St h₀ g z L (k0 :: k1 :: k2 :: k3 :: k4 :: k5 :: k6 :: k7 :: k8 :: k9 :: k10 :: k11 :: k12 :: k13 :: k14 :: k15 :: k16 :: k17 :: x :: Kr) (v0 :: v1 :: v2 :: v3 :: v4 :: v5 :: v6 :: v7 :: v8 :: v9 :: v10 :: v11 :: v12 :: v13 :: v14 :: v15 :: v16 :: v17 :: some u :: vr) ms s' → Q () s') :
    wpAny M A (storeName env x u) Q E s := stAt (i := 18) S O rfl (by simp) h
theorem ld19 {k0 k1 k2 k3 k4 k5 k6 k7 k8 k9 k10 k11 k12 k13 k14 k15 k16 k17 k18 x : Str} {v0 v1 v2 v3 v4 v5 v6 v7 v8 v9 v10 v11 v12 v13 v14 v15 v16 v17 v18 : Option Value} {v : Value} {Kr : List Str} {vr : List (Option Value)} {pos : Pos} {Q : Value → Shared → Prop} (S : St h₀ g z L (k0 :: k1 :: k2 :: k3 :: k4 :: k5 :: k6 :: k7 :: k8 :: k9 :: k10 :: k11 :: k12 :: k13 :: k14 :: k15 :: k16 :: k17 :: k18 :: x :: Kr) (v0 :: v1 :: v2 :: v3 :: v4 :: v5 :: v6 :: v7 :: v8 :: v9 :: v10 :: v11 :: v12 :: v13 :: v14 :: v15 :: v16 :: v17 :: v18 :: some v :: vr) ms s) (O : EnvOk env L (k0 :: k1 :: k2 :: k3 :: k4 :: k5 :: k6 :: k7 :: k8 :: k9 :: k10 :: k11 :: k12 :: k13 :: k14 :: k15 :: k16 :: k17 :: k18 :: x :: Kr) Gs) (h : Q v s) :
    wpAny M A (eval (.Name x pos) env) Q E s := ldAt (i := 19) S O rfl rfl h
theorem st19 {k0 k1 k2 k3 k4 k5 k6 k7 k8 k9 k10 k11 k12 k13 k14 k15 k16 k17 k18 x : Str} {v0 v1 v2 v3 v4 v5 v6 v7 v8 v9 v10 v11 v12 v13 v14 v15 v16 v17 v18 : Option Value} {v : Option Value} {u : Value} {Kr : List Str} {vr : List (Option Value)} {Q : Unit → Shared → Prop} (S : St h₀ g z L (k0 :: k1 :: k2 :: k3 :: k4 :: k5 :: k6 :: k7 :: k8 :: k9 :: k10 :: k11 :: k12 :: k13 :: k14 :: k15 :: k16 :: k17 :: k18 :: x :: Kr) (v0 :: v1 :: v2 :: v3 :: v4 :: v5 :: v6 :: v7 :: v8 :: v9 :: v10 :: v11 :: v12 :: v13 :: v14 :: v15 :: v16 :: v17 :: v18 :: v :: vr) ms s) (O : EnvOk env L (k0 :: k1 :: k2 :: k3 :: k4 :: k5 :: k6 :: k7 :: k8 :: k9 :: k10 :: k11 :: k12 :: k13 :: k14 :: k15 :: k16 :: k17 :: k18 :: x :: Kr) Gs) (h : ∀ s', 0 < s'.toks → St h₀ g z L (k0 :: k1 :: k2 :: k3 :: k4 :: k5 :: k6 :: k7 :: k8 :: k9 :: k10 :: k11 :: k12 :: k13 :: k14 :: k15 :: k16 :: k17 :: k18 :: x :: Kr) (v0 :: v1 :: v2 :: v3 :: v4 :: v5 :: v6 :: v7 :: v8 :: v9 :: v10 :: v11 :: v12 :: v13 :: v14 :: v15 :: v16 :: v17 :: v18 :: some u :: vr) ms s' → Q () s') :
    wpAny M A (storeName env x u) Q E s := stAt (i := 19) S O rfl (by simp) h
theorem ld20 {k0 k1 k2 k3 k4 k5 k6 k7 k8 k9 k10 k11 k12 k13 k14 k15 k16 k17 k18 k19 x : Str} {v0 v1 v2 v3 v4 v5 v6 v7 v8 v9 v10 v11 v12 v13 v14 v15 v16 v17 v18 v19 : Option Value} {v : Value} {Kr : List Str} {vr : List (Option Value)} {pos : Pos} {Q : Value → Shared → Prop} (S : St h₀ g z L (k0 :: k1 :: k2 :: k3 :: k4 :: k5 :: k6 :: k7 :: k8 :: k9 :: k10 :: k11 :: k12 :: k13 :: k14 :: k15 :: k16 :: k17 :: k18 :: k19 :: x :: Kr) (v0 :: v1 :: v2 :: v3 :: v4 :: v5 :: v6 :: v7 :: v8 :: v9 :: v10 :: v11 :: v12 :: v13 :: v14 :: v15 :: v16 :: v17 :: v18 :: v19 :: some v :: vr) ms s) (O : EnvOk env L (k0 :: k1 :: k2 :: k3 :: k4 :: k5 :: k6 :: k7 :: k8 :: k9 :: k10 :: k11 :: k12 :: k13 :: k14 :: k15 :: k16 :: k17 :: k18 :: k19 :: x :: Kr) Gs) (h : Q v s) :
    wpAny M A (eval (.Name x pos) env) Q E s := ldAt (i := 20) S O rfl rfl h
theorem st20 {k0 k1 k2 k3 k4 k5 k6 k7 k8 k9 k10 k11 k12 k13 k14 k15 k16 k17 k18 k19 x : Str} {v0 v1 v2 v3 v4 v5 v6 v7 v8 v9 v10 v11 v12 v13 v14 v15 v16 v17 v18 v19 : Option Value} {v : Option Value} {u : Value} {Kr : List Str} {vr : List (Option Value)} {Q : Unit → Shared → Prop} (S : St h₀ g z L (k0 :: k1 :: k2 :: k3 :: k4 :: k5 :: k6 :: k7 :: k8 :: k9 :: k10 :: k11 :: k12 :: k13 :: k14 :: k15 :: k16 :: k17 :: k18 :: k19 :: x :: Kr) (v0 :: v1 :: v2 :: v3 :: v4 :: v5 :: v6 :: v7 :: v8 :: v9 :: v10 :: v11 :: v12 :: v13 :: v14 :: v15 :: v16 :: v17 :: v18 :: v19 :: v :: vr) ms s) (O : EnvOk env L (k0 :: k1 :: k2 :: k3 :: k4 :: k5 :: k6 :: k7 :: k8 :: k9 :: k10 :: k11 :: k12 :: k13 :: k14 :: k15 :: k16 :: k17 :: k18 :: k19 :: x :: Kr) Gs) (h : ∀ s', 0 < s'.toks → St h₀ g z L (k0 :: k1 :: k2 :: k3 :: k4 :: k5 :: k6 :: k7 :: k8 :: k9 :: k10 :: k11 :: k12 :: k13 :: k14 :: k15 :: k16 :: k17 :: k18 :: k19 :: x :: Kr) (v0 :: v1 :: v2 :: v3 :: v4 :: v5 :: v6 :: v7 :: v8 :: v9 :: v10 :: v11 :: v12 :: v13 :: v14 :: v15 :: v16 :: v17 :: v18 :: v19 :: some u :: vr) ms s' → Q () s') :
    wpAny M A (storeName env x u) Q E s := stAt (i := 20) S O rfl (by simp) h
theorem ld21 {k0 k1 k2 k3 k4 k5 k6 k7 k8 k9 k10 k11 k12 k13 k14 k15 k16 k17 k18 k19 k20 x : Str} {v0 v1 v2 v3 v4 v5 v6 v7 v8 v9 v10 v11 v12 v13 v14 v15 v16 v17 v18 v19 v20 : Option Value} {v : Value} {Kr : List Str} {vr : List (Option Value)} {pos : Pos} {Q : Value → Shared → Prop} (S : St h₀ g z L (k0 :: k1 :: k2 :: k3 :: k4 :: k5 :: k6 :: k7 :: k8 :: k9 :: k10 :: k11 :: k12 :: k13 :: k14 :: k15 :: k16 :: k17 :: k18 :: k19 :: k20 :: x :: Kr) (v0 :: v1 :: v2 :: v3 :: v4 :: v5 :: v6 :: v7 :: v8 :: v9 :: v10 :: v11 :: v12 :: v13 :: v14 :: v15 :: v16 :: v17 :: v18 :: v19 :: v20 :: some v :: vr) ms s) (O : EnvOk env L (k0 :: k1 :: k2 :: k3 :: k4 :: k5 :: k6 :: k7 :: k8 :: k9 :: k10 :: k11 :: k12 :: k13 :: k14 :: k15 :: k16 :: k17 :: k18 :: k19 :: k20 :: x :: Kr) Gs) (h : Q v s) :
    wpAny M A (eval (.Name x pos) env) Q E s := ldAt (i := 21) S O rfl rfl h
theorem st21 {k0 k1 k2 k3 k4 k5 k6 k7 k8 k9 k10 k11 k12 k13 k14 k15 k16 k17 k18 k19 k20 x : Str} {v0 v1 v2 v3 v4 v5 v6 v7 v8 v9 v10 v11 v12 v13 v14 v15 v16 v17 v18 v19 v20 : Option Value} {v : Option Value} {u : Value} {Kr : List Str} {vr : List (Option Value)} {Q : Unit → Shared → Prop} (S : St h₀ g z L (k0 :: k1 :: k2 :: k3 :: k4 :: k5 :: k6 :: k7 :: k8 :: k9 :: k10 :: k11 :: k12 :: k13 :: k14 :: k15 :: k16 :: k17 :: k18 :: k19 :: k20 :: x :: Kr) (v0 :: v1 :: v2 :: v3 :: v4 :: v5 :: v6 :: v7 :: v8 :: v9 :: v10 :: v11 :: v12 :: v13 :: v14 :: v15 :: v16 :: v17 :: v18 :: v19 :: v20 :: v :: vr) ms s) (O : EnvOk env L (k0 :: k1 :: k2 :: k3 :: k4 :: k5 :: k6 :: k7 :: k8 :: k9 :: k10 :: k11 :: k12 :: k13 :: k14 :: k15 :: k16 :: k17 :: k18 :: k19 :: k20 :: x :: Kr) Gs) (h : ∀ s', 0 < s'.toks → St h₀ g z L (k0 :: k1 :: k2 :: k3 :: k4 :: k5 :: k6 :: k7 :: k8 :: k9 :: k10 :: k11 :: k12 :: k13 :: k14 :: k15 :: k16 :: k17 :: k18 :: k19 :: k20 :: x :: Kr) (v0 :: v1 :: v2 :: v3 :: v4 :: v5 :: v6 :: v7 :: v8 :: v9 :: v10 :: v11 :: v12 :: v13 :: v14 :: v15 :: v16 :: v17 :: v18 :: v19 :: v20 :: some u :: vr) ms s' → Q () s') :
    wpAny M A (storeName env x u) Q E s := stAt (i := 21) S O rfl (by simp) h

theorem iteB {c : Bool} {P R : Prop} (h1 : c = true → P) (h2 : c = false → R) : if c = true then P else R := by
  cases c with
  | true => exact h1 rfl
  | false => exact h2 rfl

def NextQ (P : Shared → Prop) (Q : Flow → Shared → Prop) : Flow → Shared → Prop
  | .next, s => P s
  | f, s => Q f s
theorem exC {st : Stmt} {rest : List Stmt} {Q : Flow → Shared → Prop} (h : wpAny M A (exec st env) (NextQ (fun s' => wpAny M A (execs rest env) Q E s') Q) E s) : wpAny M A (execs (st :: rest) env) Q E s :=
  wpAny_execs_cons (wpAny_mono h (fun f s' h' => by cases f <;> exact h') fun _ _ e => e)
theorem exJ {st : Stmt} {rest : List Stmt} {Q : Flow → Shared → Prop} (J : Shared → Prop) (h1 : ∀ Q' : Flow → Shared → Prop, (∀ s', J s' → Q' .next s') → wpAny M A (exec st env) Q' E s)
    (h2 : ∀ s', J s' → wpAny M A (execs rest env) Q E s') : wpAny M A (execs (st :: rest) env) Q E s :=
  exC (h1 _ h2)
theorem exJR {st : Stmt} {rest : List Stmt} {Q : Flow → Shared → Prop} (J : Shared → Prop) (h1 : ∀ Q' : Flow → Shared → Prop, (∀ s', J s' → Q' .next s') → (∀ v s', Q (.ret v) s' → Q' (.ret v) s') → wpAny M A (exec st env) Q' E s)
    (h2 : ∀ s', J s' → wpAny M A (execs rest env) Q E s') : wpAny M A (execs (st :: rest) env) Q E s :=
  exC (h1 _ h2 fun _ _ h => h)
theorem iteT {P R : Prop} (h : P) : if true = true then P else R := h
theorem iteF {P R : Prop} (h : R) : if false = true then P else R := h
theorem nqN {P : Shared → Prop} {Q : Flow → Shared → Prop} (h : P s) : NextQ P Q .next s := h
theorem nqB {P : Shared → Prop} {Q : Flow → Shared → Prop} (h : Q .brk s) : NextQ P Q .brk s := h
theorem nqR {P : Shared → Prop} {Q : Flow → Shared → Prop} {v : Value} (h : Q (.ret v) s) : NextQ P Q (.ret v) s := h
def TurnQ (C : Shared → Prop) (Q : Flow → Shared → Prop) : Flow → Shared → Prop
  | .next, s | .cont, s => C s
  | .brk, s => Q .next s
  | .ret v, s => Q (.ret v) s
theorem tqN {C : Shared → Prop} {Q : Flow → Shared → Prop} (h : C s) : TurnQ C Q .next s := h
theorem tqB {C : Shared → Prop} {Q : Flow → Shared → Prop} (h : Q .next s) : TurnQ C Q .brk s := h
theorem tqR {C : Shared → Prop} {Q : Flow → Shared → Prop} {v : Value} (h : Q (.ret v) s) : TurnQ C Q (.ret v) s := h
-- constants
theorem kInt {i : Int} {k : Nat} {pos : Pos} {Q : Value → Shared → Prop} (S : St h₀ g z L K vals ms s) (h : ∀ t s', St h₀ g z L K vals ms s' → Q (.int i t) s') : wpAny M A (eval (.Constant (.int i) k pos) env) Q E s :=
  wpAny_Constant_int (h _ _ (S.tok _))
theorem kStr {x : Str} {k : Nat} {pos : Pos} {Q : Value → Shared → Prop} (S : St h₀ g z L K vals ms s) (h : ∀ t s', St h₀ g z L K vals ms s' → Q (.str x t) s') : wpAny M A (eval (.Constant (.str x) k pos) env) Q E s :=
  Constant_str (h _ _ (S.tok _))
-- ints
theorem addI {a b : Int} {t u : Tok} {Q : Value → Shared → Prop} (S : St h₀ g z L K vals ms s) (h : ∀ t' s', St h₀ g z L K vals ms s' → Q (.int (a + b) t') s') : wpAny (model prog w) A (binaryOp .Add (.int a t) (.int b u)) Q E s :=
  add_int (h _ _ (S.tok _))
theorem subI {a b : Int} {t u : Tok} {Q : Value → Shared → Prop} (S : St h₀ g z L K vals ms s) (h : ∀ t' s', St h₀ g z L K vals ms s' → Q (.int (a - b) t') s') : wpAny (model prog w) A (binaryOp .Sub (.int a t) (.int b u)) Q E s :=
  sub_int (h _ _ (S.tok _))
theorem mulI {a b : Int} {t u : Tok} {Q : Value → Shared → Prop} (S : St h₀ g z L K vals ms s) (hm : IntMulOk a b) (h : ∀ t' s', St h₀ g z L K vals ms s' → Q (.int (a * b) t') s') : wpAny (model prog w) A (binaryOp .Mult (.int a t) (.int b u)) Q E s :=
  mul_int (h _ _ (S.tok _)) hm
theorem modI {a b : Int} {t u : Tok} {Q : Value → Shared → Prop} (S : St h₀ g z L K vals ms s) (hb : b ≠ 0) (h : ∀ t' s', St h₀ g z L K vals ms s' → Q (.int (a.fmod b) t') s') : wpAny (model prog w) A (binaryOp .Mod (.int a t) (.int b u)) Q E s :=
  mod_int' hb (h _ _ (S.tok _))
theorem divI {a b : Int} {t u : Tok} {Q : Value → Shared → Prop} (S : St h₀ g z L K vals ms s) (hb : b ≠ 0) (hd : Builtin.divisionGoesByPylong a b = false) (h : ∀ t' s', St h₀ g z L K vals ms s' → Q (.int (a.fdiv b) t') s') : wpAny (model prog w) A (binaryOp .FloorDiv (.int a t) (.int b u)) Q E s :=
  floordiv_int hb (h _ _ (S.tok _)) (.inl hd)
-- strs
theorem addS {x y : Str} {t u : Tok} {Q : Value → Shared → Prop} (S : St h₀ g z L K vals ms s) (hz : x.length + y.length ≤ sizeLine) (h : ∀ t' s', St h₀ g z L K vals ms s' → Q (.str (x ++ y) t') s') : wpAny (model prog w) A (binaryOp .Add (.str x t) (.str y u)) Q E s :=
  SBL.add (fun _ _ _ => h _ _ (S.tok _)) hz
theorem lenS {x : Str} {t : Tok} {Q : Value → Shared → Prop} (S : St h₀ g z L K vals ms s) (hx : x.length ≤ 2 ^ 40) (h : ∀ t' s', St h₀ g z L K vals ms s' → Q (.int x.length t') s') : wpAny (model prog w) A (call (.builtin "len") [.str x t]) Q E s :=
  SBL.len (by omega) (h _ _ (S.tok _))
theorem truthS {x : Str} {t : Tok} {Q : Bool → Shared → Prop} (S : St h₀ g z L K vals ms s) (hx : x.length ≤ 2 ^ 40) (h : ∀ s', 0 < s'.toks → St h₀ g z L K vals ms s' → Q ((x.length : Int) != 0) s') : wpAny (model prog w) A (truthy (.str x t)) Q E s :=
  SBL.truthy (by omega) (h _ (Nat.succ_pos _) (S.tok _))
theorem findS {x y : Str} {t u : Tok} {Q : Value → Shared → Prop} (S : St h₀ g z L K vals ms s) (h : ∀ t' s', St h₀ g z L K vals ms s' → Q (.int (Txt.find x y) t') s') : wpAny (model prog w) A (call (.builtin "str.find") [.str x t, .str y u]) Q E s :=
  SC.find (h _ _ (S.tok _))

-- slices
theorem ltgS (value : Expr) (x : Str) (t : Tok) (r : Value) : letTemporaryGo value (.str x t) r = pure () := by
  unfold letTemporaryGo; split <;> first | rfl | (rename_i h; cases h)
theorem St.keptH (gs : Shared) : KeptH (fun h' => St h₀ g z L K vals ms { gs with heap := h' }) := fun h ob p => by
  exact St.push p ob
theorem sliceSN {value lower : Expr} {pl : Pos} {x : Str} {t : Tok} {i : Int} {ui : Tok} {Q : Value → Shared → Prop} (S : St h₀ g z L K vals ms s) (hsz : x.length ≤ sizeLine) (h : ∀ t' s', St h₀ g z L K vals ms s' → Q (.str (Txt.slice x (some i) none) t') s') :
    wpAny (model prog w) A (subscriptTail value (.Slice (some lower) none none pl) (.str x t) (.ref s.heap.objs.size)) Q E { s with heap := s.heap.push { cls := .type "slice", data := .fields #[.int i ui, .none, .none] } } :=
  tail_of_ItemOn (SBH.sliceItem_sn (St.keptH s) S (fun h' t' k hp => h t' _ (hp.tok k)) hsz) (by with_unfolding_all rfl) (ltgS _ _ _)
theorem sliceNS {value upper : Expr} {pl : Pos} {x : Str} {t : Tok} {i : Int} {ui : Tok} {Q : Value → Shared → Prop} (S : St h₀ g z L K vals ms s) (hsz : x.length ≤ sizeLine) (h : ∀ t' s', St h₀ g z L K vals ms s' → Q (.str (Txt.slice x none (some i)) t') s') :
    wpAny (model prog w) A (subscriptTail value (.Slice none (some upper) none pl) (.str x t) (.ref s.heap.objs.size)) Q E { s with heap := s.heap.push { cls := .type "slice", data := .fields #[.none, .int i ui, .none] } } :=
  tail_of_ItemOn (SBH.sliceItem_ns (St.keptH s) S (fun h' t' k hp => h t' _ (hp.tok k)) hsz) (by with_unfolding_all rfl) (ltgS _ _ _)
theorem sliceSS {value lower upper : Expr} {pl : Pos} {x : Str} {t : Tok} {i j : Int} {ui uj : Tok} {Q : Value → Shared → Prop} (S : St h₀ g z L K vals ms s) (hsz : x.length ≤ sizeLine) (h : ∀ t' s', St h₀ g z L K vals ms s' → Q (.str (Txt.slice x (some i) (some j)) t') s') :
    wpAny (model prog w) A (subscriptTail value (.Slice (some lower) (some upper) none pl) (.str x t) (.ref s.heap.objs.size)) Q E { s with heap := s.heap.push { cls := .type "slice", data := .fields #[.int i ui, .int j uj, .none] } } :=
  tail_of_ItemOn (SBH.sliceItem_ss (St.keptH s) S (fun h' t' k hp => h t' _ (hp.tok k)) hsz) (by with_unfolding_all rfl) (ltgS _ _ _)

-- lists and tuples made
theorem newL {vs : List Value} {Q : Value → Shared → Prop} (S : St h₀ g z L K vals ms s) (hsz : vs.length ≤ sizeLine) (h : ∀ D s', St h₀ g z L K vals ((D, listOf vs.toArray 0) :: ms) s' → Q (.ref D) s') : wpAny M A (newList vs) Q E s :=
  wpAny_newList (h _ _ (S.alloc rfl)) hsz
abbrev tupOf (its : Array Value) : Obj := { cls := .type "tuple", data := .seq its 0 }
theorem newT {vs : List Value} {Q : Value → Shared → Prop} (S : St h₀ g z L K vals ms s) (hsz : vs.length ≤ sizeLine) (h : ∀ D s', St h₀ g z L K vals ((D, tupOf vs.toArray) :: ms) s' → Q (.ref D) s') : wpAny M A (newTuple vs) Q E s :=
  wpAny_newTuple (h _ _ (S.alloc rfl)) hsz
theorem appAt {pre post : List (Addr × Obj)} {D : Addr} {its : Array Value} {n : Nat} {x : Value} {Q : Value → Shared → Prop} (S : St h₀ g z L K vals (pre ++ (D, listOf its n) :: post) s) (hsz : its.size ≤ sizeLine)
    (h : ∀ s', St h₀ g z L K vals (pre ++ (D, listOf (its.push x) (n + 1)) :: post) s' → Q .none s') : wpAny (model prog w) A (call (.builtin "list.append") [.ref D, x]) Q E s :=
  append_at (S.own (D, listOf its n) (by simp)).1 (fun h' hs ho => h _ (S.upd hs ho)) hsz
theorem app0 {post : List (Addr × Obj)} {D : Addr} {its : Array Value} {n : Nat} {x : Value} {Q : Value → Shared → Prop} (S : St h₀ g z L K vals ((D, listOf its n) :: post) s) (hsz : its.size ≤ sizeLine)
    (h : ∀ s', St h₀ g z L K vals ((D, listOf (its.push x) (n + 1)) :: post) s' → Q .none s') : wpAny (model prog w) A (call (.builtin "list.append") [.ref D, x]) Q E s := appAt (pre := []) S hsz h
theorem app1 {p0 : Addr × Obj} {post : List (Addr × Obj)} {D : Addr} {its : Array Value} {n : Nat} {x : Value} {Q : Value → Shared → Prop} (S : St h₀ g z L K vals (p0 :: (D, listOf its n) :: post) s) (hsz : its.size ≤ sizeLine)
    (h : ∀ s', St h₀ g z L K vals (p0 :: (D, listOf (its.push x) (n + 1)) :: post) s' → Q .none s') : wpAny (model prog w) A (call (.builtin "list.append") [.ref D, x]) Q E s := appAt (pre := [p0]) S hsz h
theorem app2 {p0 p1 : Addr × Obj} {post : List (Addr × Obj)} {D : Addr} {its : Array Value} {n : Nat} {x : Value} {Q : Value → Shared → Prop} (S : St h₀ g z L K vals (p0 :: p1 :: (D, listOf its n) :: post) s) (hsz : its.size ≤ sizeLine)
    (h : ∀ s', St h₀ g z L K vals (p0 :: p1 :: (D, listOf (its.push x) (n + 1)) :: post) s' → Q .none s') : wpAny (model prog w) A (call (.builtin "list.append") [.ref D, x]) Q E s := appAt (pre := [p0, p1]) S hsz h
theorem app3 {p0 p1 p2 : Addr × Obj} {post : List (Addr × Obj)} {D : Addr} {its : Array Value} {n : Nat} {x : Value} {Q : Value → Shared → Prop} (S : St h₀ g z L K vals (p0 :: p1 :: p2 :: (D, listOf its n) :: post) s) (hsz : its.size ≤ sizeLine)
    (h : ∀ s', St h₀ g z L K vals (p0 :: p1 :: p2 :: (D, listOf (its.push x) (n + 1)) :: post) s' → Q .none s') : wpAny (model prog w) A (call (.builtin "list.append") [.ref D, x]) Q E s := appAt (pre := [p0, p1, p2]) S hsz h

theorem getAppend {D : Addr} {its : Array Value} {n : Nat} {pl : Sem Bool} {Q : Value × List Value → Shared → Prop} (S : St h₀ g z L K vals ms s) (hm : (D, listOf its n) ∈ ms) (h : Q (.builtin "list.append", [.ref D]) s) :
    wpAny M A (getMethod (.ref D) "append" pl) Q E s := getMethod_list_append (S.own _ hm).1 rfl rfl h

-- items
theorem isL {l : Addr} {its : Array Value} {n : Nat} (S : St h₀ g z L K vals ms s) (hz : z l = some (listOf its n)) : s.heap.IsList l its := ⟨_, S.keep _ _ hz, rfl, _, rfl⟩
theorem isT {l : Addr} {its : Array Value} (S : St h₀ g z L K vals ms s) (hz : z l = some (tupOf its)) : s.heap.IsTuple l its := ⟨_, S.keep _ _ hz, rfl, _, rfl⟩
theorem isLm {l : Addr} {its : Array Value} {n : Nat} (S : St h₀ g z L K vals ms s) (hm : (l, listOf its n) ∈ ms) : s.heap.IsList l its := ⟨_, (S.own _ hm).1, rfl, _, rfl⟩
theorem isTm {l : Addr} {its : Array Value} (S : St h₀ g z L K vals ms s) (hm : (l, tupOf its) ∈ ms) : s.heap.IsTuple l its := ⟨_, (S.own _ hm).1, rfl, _, rfl⟩

theorem exprZ {e : Expr} {pos : Pos} {Q : Flow → Shared → Prop} (O : EnvOk env L K Gs) (h : wpAny (model prog w) A (eval e env) (fun _ s' => Q .next s') E s)
    (hs : swapsWith e none pos.line env = pure false := by rfl) : wpAny (model prog w) A (exec (.Expr e pos) env) Q E s :=
  wpAny_Expr_any h (by unfold interactive; rw [O.kind]; rfl) hs
-- methods of built-in types
theorem cwM1 {pos : Pos} {id : String} {x : Value} {e : Expr} {rest : List Expr} {Q : Value → Shared → Prop} (h : wpAny M A (spliced (backTo pos (starEach (e :: rest) env))) (fun vs s₁ => wpAny M A (call (.builtin id) (x :: vs)) Q E s₁) E s)
    (he : starEach (e :: rest) env = (false, eval e env) :: starEach rest env := by rfl) (hp : (backTo pos (starEach rest env)).any (·.1) = false := by rfl) :
    wpAny M A (callWith pos (.builtin id) [x] (backTo pos (starEach (e :: rest) env)) []) Q E s := callWith_method1 h he hp
-- own functions
theorem callWith_fn {pos : Pos} {f : Addr} {o : Obj} {fd : FuncData} {e : Expr} {rest : List Expr} {Q : Value → Shared → Prop} (ho : h₀.get? f = some o) (hd : o.data = .func fd)
    (h : wpAny M A (spliced (backTo pos (starEach (e :: rest) env))) (fun vs s₁ => Le h₀.get? s₁.heap.get? ∧ wpAny M A (call (.ref f) vs) Q E s₁) E s)
    (he : starEach (e :: rest) env = (false, eval e env) :: starEach rest env) : wpAny M A (callWith pos (.ref f) [] (backTo pos (starEach (e :: rest) env)) []) Q E s := by
  refine callWith_function (o := o) (fd := fd) ?_
  rw [he] at h ⊢
  exact evalArgs_plain (wpAny_mono h (fun vs s₁ h₁ => ⟨⟨h₁.1 _ _ ho, hd⟩, h₁.2⟩) fun _ _ x => x)

theorem useSpec {f : Addr} {args : List Value} {P : Value → Shared → Prop} {Q : Value → Shared → Prop} (S : St h₀ g z L K vals ms s)
    (c : codeAny M A (.call (.ref f) ⟨args, []⟩) (fun r s' => ∃ v, r = .ok (.ret v) ∧ Keeps s s' ∧ P v s') s)
    (h : ∀ v z' s', Le z z' → Le (nw s.heap.objs.size s'.heap.get?) (nw g.heap.objs.size z') → St h₀ g z' L K vals ms s' → P v s' → Q v s') : wpAny M A (call (.ref f) args) Q E s :=
  wpAny_call (codeAny_mono c fun r s' ⟨v, e, k, p⟩ => by
    subst e
    obtain ⟨z', a, b, c⟩ := S.back k
    exact h v z' s' a b c p)

/-- the way into a def of the text -/
theorem enter {f : Addr} {o : Obj} {fd : FuncData} {body : List Stmt} {args : Args} {binds : List (Str × Value)} {R : Result → Shared → Prop}
    (hs : Le h₀.get? s.heap.get?) (hroom : A.depth < recursionLimit) (ho : h₀.get? f = some o) (hdata : o.data = .func fd) (hlim : h₀.NoLimit) (hcd : h₀.CodeRec fd.code fd.qualname)
    (hbody : fd.body = .stmts body) (hbind : BindsTo s fd args binds) (hcell : ∀ x ∈ fd.scope.names, x.2 ≠ .cell) (hloc : ∀ x ∈ binds, fd.scope.names.lookup x.1 = some .local)
    (hm : (fun x => binds.reverse.lookup x) = mOf K vals)
    (h : ∀ s', (∀ x, x = binds → 0 < x.length → 0 < s'.toks) → St h₀ s s.heap.get? s.heap.objs.size K vals [] s' → wpAny (model prog w) (A.deeper (callEnv fd s.heap.objs.size f)) (execs body (callEnv fd s.heap.objs.size f)) (fun fl s' => R (.ok (.ret (match fl with | .ret v => v | _ => .none))) s')
        (fun e s' => wpAny (model prog w) (A.deeper (callEnv fd s.heap.objs.size f)) (leaving (callEnv fd s.heap.objs.size f) e) (fun _ s'' => R (.error e) s'') (fun e' s'' => R (.error e') s'') s') s')
    (hco : fd.scope.isCoroutine = false) (hgen : fd.scope.isGenerator = false) (hk : fd.scope.kind = .function) : codeAny (model prog w) A (.call (.ref f) args) R s := by
  obtain ⟨mc, hn, hv⟩ := hlim
  refine codeAny_call_def hroom (hs _ _ ho) hdata ⟨mc, hn.keeps hs, hv⟩ ?_ hbody hbind hcell hloc (fun h₁ hns hk₁ => ?_) hco hgen hk
  · obtain ⟨c, oc, vs, tq, hc, hoc, r⟩ := hcd
    exact ⟨c, oc, vs, tq, hc, hs _ _ hoc, r⟩
  · exact h _ (fun x e hx => by subst e; show 0 < s.toks + _; omega) (St.start hs hns hk₁ hm)
end
end Mine

namespace Mine
section
variable {M : Model} {prog : Program} {w : World} {A : Around} {E : Value → Shared → Prop} {h₀ : Heap} {g : Shared} {z z' : PHeap} {L : Addr} {K Gs : List Str} {vals : List (Option Value)} {ms : List (Addr × Obj)} {s : Shared} {env : Env}

theorem St.ext {I : Addr} {o : Obj} {h' : Heap} (S : St h₀ g z L K vals ((I, o) :: ms) s) (hx : Heap.ExtBut I s.heap h') : St h₀ g z L K vals ms { s with heap := h' } := by
  have P := S.own (I, o) (.head _)
  obtain ⟨h, tk, e⟩ := S.sh
  have hn : h'.Ns L (mOf K vals) := S.ns.extBut hx (Ne.symm P.2.1)
  refine ⟨⟨_, s.toks, by rw [e]⟩, hn, fun b ob hb => hx b ob (fun q => ?_) (S.keep b ob hb), S.zL, S.gL, fun p hp => ?_, (List.nodup_cons.mp S.nd).2, S.zg, ?_, S.h0⟩
  · rw [q, P.2.2.1] at hb; cases hb
  · have Q := S.own p (.tail _ hp)
    exact ⟨hx _ _ (fun q => (List.nodup_cons.mp S.nd).1 (List.mem_map.mpr ⟨p, hp, q⟩)) Q.1, Q.2⟩
  · exact Nat.le_trans S.gL (Nat.le_of_lt hn.lt)

theorem letOwned_go {target : Expr} {I : Addr} {v : Value} {o : Obj} {vs : Array Value} {T : String} {Q : Unit → Shared → Prop} (ho : s.heap.get? I = some o) (hc : o.cls = .type T) (hd : o.data = .fields vs)
    (hT : (["enumerate", "zip", "dict_itemiterator", "dict_reverseitemiterator", "odict_iterator", "itertools.zip_longest", "itertools.pairwise"] : List String).contains T = false) (h : Q () s) :
    wpAny (model prog w) A (letOwnedTupleGo target (.ref I) v) Q E s := by
  have main : wpAny (model prog w) A (do
      let (.ref r, .ref a) := ((.ref I : Value), v) | return
      let o ← load r
      match o.cls, o.data with
      | .type n, .fields vs =>
        if ["enumerate", "zip", "dict_itemiterator", "dict_reverseitemiterator", "odict_iterator", "itertools.zip_longest", "itertools.pairwise"].contains n && vs[0]? == some (rawInt a) then
          rule "for.unpacks-the-owned-tuple"
          updateField r 0 .none
      | _, _ => pure ()) Q E s := by
    cases v <;> first
      | exact wpAny_pure h
      | (refine wpAny_bind (wpAny_load ho ?_)
         simp only [hc, hd, hT, Bool.false_and]
         exact wpAny_pure h)
  cases target <;> first
    | exact wpAny_pure h
    | exact main

theorem forL {target : Expr} {body : List Stmt} {l : Addr} {vs : List Value} {n : Nat} {Q : Flow → Shared → Prop} {Er : Value → Shared → Prop} (S : St h₀ g z L K vals ms s) (hh : A.handled = none) (hz : z l = some (listOf vs.toArray n))
    (J : Nat → PHeap → List (Option Value) → List (Addr × Obj) → Prop) (h0 : J 0 z vals ms)
    (turn : ∀ (E' : Value → Shared → Prop) i v z' vals' I o ms' s', vs[i]? = some v → Le z z' → J i z' vals' ms' → St h₀ g z' L K vals' ((I, o) :: ms') s' →
      wpAny (model prog w) A (assign target env v) (fun _ s₂ => wpAny (model prog w) A (execs body env) (TurnQ (fun s₃ => ∃ z'' vals'' ms'', Le z' z'' ∧ J (i + 1) z'' vals'' ms'' ∧ St h₀ g z'' L K vals'' ((I, o) :: ms'') s₃) Q) E' s₂) E' s')
    (done : ∀ z' vals' ms' s', Le z z' → J vs.length z' vals' ms' → St h₀ g z' L K vals' ms' s' → Q .next s') :
    wpAny (model prog w) A (pyIter (.ref l)) (fun it s₂ => codeAny (model prog w) A (.forLoop target it body [] env) (fun r s' => match r with | .ok f => Q f s' | .error e => Er e s') s₂) E s := by
  refine wpAny_pyIter_list (isL S hz) ?_
  refine codeAny_forLoop_any (fun k s' => ∃ (i : Nat) (z' : PHeap) (vals' : List (Option Value)) (ms' : List (Addr × Obj)) (o : Obj), St h₀ g z' L K vals' ((s.heap.objs.size, o) :: ms') s' ∧ o.cls = .type "list_iterator" ∧ o.data = .fields #[.ref l, .int i 0] ∧ Le z z' ∧ J i z' vals' ms' ∧ i ≤ vs.length ∧ k = vs.length + 1 - i) ?_
    (vs.length + 1) ⟨0, z, vals, ms, _, S.alloc rfl, rfl, rfl, Le.refl z, h0, Nat.zero_le _, rfl⟩
  rintro k s' ⟨i, z', vals', ms', o, S', hc, hd, le, hJ, hi, rfl⟩
  have hit : s'.heap.IsListIter s.heap.objs.size l i := ⟨o, (S'.own _ (.head _)).1, hc, hd⟩
  cases hv : vs[i]? with
  | none =>
    have hsz : i = vs.length := Nat.le_antisymm hi (by simpa using hv)
    refine wpAny_pyNext_list_end hh hit (isL S' (le _ _ hz)) (by simpa using hv) fun h₁ he₁ => wpAny_execs_nil ?_
    exact done z' vals' ms' _ le (hsz ▸ hJ) (S'.ext he₁)
  | some v =>
    have hlt : i < vs.length := (List.getElem?_eq_some_iff.mp hv).1
    refine wpAny_pyNext_list_item hit (isL S' (le _ _ hz)) (by simpa using hv) fun h₁ hit₁ hs₁ => ?_
    obtain ⟨o', ho', hc', hd'⟩ := hit₁
    have S₁ := S'.upd (pre := []) hs₁ ho'
    refine letOwned_go (S₁.own _ (.head _)).1 hc' hd' (by decide) ?_
    refine wpAny_mono (turn _ i v z' vals' _ o' ms' _ hv le hJ S₁) (fun _ s₂ h₂ => wpAny_mono h₂ (fun f s₃ h₃ => ?_) fun _ _ e => e) fun _ _ e => e
    cases f with
    | next =>
      obtain ⟨z'', vals'', ms'', le', hJ', S₃⟩ := h₃
      exact ⟨vs.length + 1 - (i + 1), by omega, i + 1, z'', vals'', ms'', o', S₃, hc', hd', le.trans le', hJ', hlt, rfl⟩
    | cont =>
      obtain ⟨z'', vals'', ms'', le', hJ', S₃⟩ := h₃
      exact ⟨vs.length + 1 - (i + 1), by omega, i + 1, z'', vals'', ms'', o', S₃, hc', hd', le.trans le', hJ', hlt, rfl⟩
    | brk => exact h₃
    | ret v => exact h₃

theorem forT {target : Expr} {body : List Stmt} {l : Addr} {vs : List Value} {Q : Flow → Shared → Prop} {Er : Value → Shared → Prop} (S : St h₀ g z L K vals ms s) (hh : A.handled = none) (hz : z l = some (tupOf vs.toArray))
    (J : Nat → PHeap → List (Option Value) → List (Addr × Obj) → Prop) (h0 : J 0 z vals ms)
    (turn : ∀ (E' : Value → Shared → Prop) i v z' vals' I o ms' s', vs[i]? = some v → Le z z' → J i z' vals' ms' → St h₀ g z' L K vals' ((I, o) :: ms') s' →
      wpAny (model prog w) A (assign target env v) (fun _ s₂ => wpAny (model prog w) A (execs body env) (TurnQ (fun s₃ => ∃ z'' vals'' ms'', Le z' z'' ∧ J (i + 1) z'' vals'' ms'' ∧ St h₀ g z'' L K vals'' ((I, o) :: ms'') s₃) Q) E' s₂) E' s')
    (done : ∀ z' vals' ms' s', Le z z' → J vs.length z' vals' ms' → St h₀ g z' L K vals' ms' s' → Q .next s') :
    wpAny (model prog w) A (pyIter (.ref l)) (fun it s₂ => codeAny (model prog w) A (.forLoop target it body [] env) (fun r s' => match r with | .ok f => Q f s' | .error e => Er e s') s₂) E s := by
  refine wpAny_pyIter_tuple (isT S hz) ?_
  refine codeAny_forLoop_any (fun k s' => ∃ (i : Nat) (z' : PHeap) (vals' : List (Option Value)) (ms' : List (Addr × Obj)) (o : Obj), St h₀ g z' L K vals' ((s.heap.objs.size, o) :: ms') s' ∧ o.cls = .type "tuple_iterator" ∧ o.data = .fields #[.ref l, .int i 0] ∧ Le z z' ∧ J i z' vals' ms' ∧ i ≤ vs.length ∧ k = vs.length + 1 - i) ?_
    (vs.length + 1) ⟨0, z, vals, ms, _, S.alloc rfl, rfl, rfl, Le.refl z, h0, Nat.zero_le _, rfl⟩
  rintro k s' ⟨i, z', vals', ms', o, S', hc, hd, le, hJ, hi, rfl⟩
  have hit : s'.heap.IsTupleIter s.heap.objs.size l i := ⟨o, (S'.own _ (.head _)).1, hc, hd⟩
  cases hv : vs[i]? with
  | none =>
    have hsz : i = vs.length := Nat.le_antisymm hi (by simpa using hv)
    refine wpAny_pyNext_tuple_end hh hit (isT S' (le _ _ hz)) (by simpa using hv) fun h₁ he₁ => wpAny_execs_nil ?_
    exact done z' vals' ms' _ le (hsz ▸ hJ) (S'.ext he₁)
  | some v =>
    have hlt : i < vs.length := (List.getElem?_eq_some_iff.mp hv).1
    refine wpAny_pyNext_tuple_item hit (isT S' (le _ _ hz)) (by simpa using hv) fun h₁ hit₁ hs₁ => ?_
    obtain ⟨o', ho', hc', hd'⟩ := hit₁
    have S₁ := S'.upd (pre := []) hs₁ ho'
    refine letOwned_go (S₁.own _ (.head _)).1 hc' hd' (by decide) ?_
    refine wpAny_mono (turn _ i v z' vals' _ o' ms' _ hv le hJ S₁) (fun _ s₂ h₂ => wpAny_mono h₂ (fun f s₃ h₃ => ?_) fun _ _ e => e) fun _ _ e => e
    cases f with
    | next =>
      obtain ⟨z'', vals'', ms'', le', hJ', S₃⟩ := h₃
      exact ⟨vs.length + 1 - (i + 1), by omega, i + 1, z'', vals'', ms'', o', S₃, hc', hd', le.trans le', hJ', hlt, rfl⟩
    | cont =>
      obtain ⟨z'', vals'', ms'', le', hJ', S₃⟩ := h₃
      exact ⟨vs.length + 1 - (i + 1), by omega, i + 1, z'', vals'', ms'', o', S₃, hc', hd', le.trans le', hJ', hlt, rfl⟩
    | brk => exact h₃
    | ret v => exact h₃

theorem forR {target : Expr} {body : List Stmt} {r : Addr} {n : Nat} {t u v : Tok} {Q : Flow → Shared → Prop} {Er : Value → Shared → Prop} (S : St h₀ g z L K vals ((r, { cls := .type "range", data := .fields #[.int 0 t, .int n u, .int 1 v] }) :: ms) s) (hh : A.handled = none) (hn : n ≤ 2 ^ 40)
    (J : Nat → PHeap → List (Option Value) → List (Addr × Obj) → Prop) (h0 : J 0 z vals ms)
    (turn : ∀ (E' : Value → Shared → Prop) i tk z' vals' I o ms' s', i < n → Le z z' → J i z' vals' ms' → St h₀ g z' L K vals' ((I, o) :: ms') s' →
      wpAny (model prog w) A (assign target env (.int i tk)) (fun _ s₂ => wpAny (model prog w) A (execs body env) (TurnQ (fun s₃ => ∃ z'' vals'' ms'', Le z' z'' ∧ J (i + 1) z'' vals'' ms'' ∧ St h₀ g z'' L K vals'' ((I, o) :: ms'') s₃) Q) E' s₂) E' s')
    (done : ∀ z' vals' ms' s', Le z z' → J n z' vals' ms' → St h₀ g z' L K vals' ms' s' → Q .next s') :
    wpAny (model prog w) A (pyIter (.ref r)) (fun it s₂ => codeAny (model prog w) A (.forLoop target it body [] env) (fun r s' => match r with | .ok f => Q f s' | .error e => Er e s') s₂) E s := by
  have hr : IsRange s.heap r 0 n 1 t u v := (S.own _ (.head _)).1
  have hsize : Builtin.Range.rangeSize 0 n 1 = n := by rw [rangeSize_one]; split <;> omega
  refine wpAny_pyIter_range hr (small_one (by omega) (by omega) (by omega) (by omega)) ?_
  rw [hsize]
  have S0 := S.drop
  refine codeAny_forLoop_any (fun k s' => ∃ (i : Nat) (z' : PHeap) (vals' : List (Option Value)) (ms' : List (Addr × Obj)), St h₀ g z' L K vals' ((s.heap.objs.size, { cls := .type "range_iterator", dict := none, data := .fields #[rawInt i, rawInt ((n : Int) - i), rawInt 1], slots := #[] }) :: ms') s' ∧ Le z z' ∧ J i z' vals' ms' ∧ i ≤ n ∧ k = n + 1 - i) ?_
    (n + 1) ⟨0, z, vals, ms, by simpa using S0.alloc (o := { cls := .type "range_iterator", data := .fields #[rawInt 0, rawInt n, rawInt 1] }) rfl, Le.refl z, h0, Nat.zero_le _, rfl⟩
  rintro k s' ⟨i, z', vals', ms', S', le, hJ, hi, rfl⟩
  have hit : IsRangeIter s'.heap s.heap.objs.size i ((n : Int) - i) 1 := (S'.own _ (.head _)).1
  by_cases hlt : i < n
  · refine wpAny_pyNext_range_item hit (by omega) fun h₁ hit₁ hs₁ => ?_
    have S₁ := (S'.upd (pre := []) hs₁ hit₁).tok (s'.toks + 1)
    refine letOwned_go (S₁.own _ (.head _)).1 rfl rfl (by decide) ?_
    refine wpAny_mono (turn _ i _ z' vals' _ _ ms' _ hlt le hJ S₁) (fun _ s₂ h₂ => wpAny_mono h₂ (fun f s₃ h₃ => ?_) fun _ _ e => e) fun _ _ e => e
    have e1 : (i : Int) + 1 = ((i + 1 : Nat) : Int) := by omega
    have e2 : (n : Int) - i - 1 = (n : Int) - ((i + 1 : Nat) : Int) := by omega
    cases f with
    | next =>
      obtain ⟨z'', vals'', ms'', le', hJ', S₃⟩ := h₃
      rw [e1, e2] at S₃
      exact ⟨n + 1 - (i + 1), by omega, i + 1, z'', vals'', ms'', S₃, le.trans le', hJ', hlt, rfl⟩
    | cont =>
      obtain ⟨z'', vals'', ms'', le', hJ', S₃⟩ := h₃
      rw [e1, e2] at S₃
      exact ⟨n + 1 - (i + 1), by omega, i + 1, z'', vals'', ms'', S₃, le.trans le', hJ', hlt, rfl⟩
    | brk => exact h₃
    | ret v => exact h₃
  · have hin : i = n := by omega
    subst hin
    refine wpAny_pyNext_range_end hh hit (by omega) fun h₁ he₁ => wpAny_execs_nil ?_
    exact done z' vals' ms' _ le hJ (S'.ext he₁)

theorem range1 {n : Int} {t : Tok} {Q : Value → Shared → Prop} (S : St h₀ g z L K vals ms s)
    (h : ∀ r t' u' s', St h₀ g z L K vals ((r, { cls := .type "range", data := .fields #[.int 0 t', .int n t, .int 1 u'] }) :: ms) s' → Q (.ref r) s') : wpAny (model prog w) A (call (.type "range") [.int n t]) Q E s :=
  call_range_1 (h _ _ _ _ ((S.alloc rfl).tok _))

/-- two names unpacked out of a pair -/
theorem asg2 {x y : Str} {px py pos : Pos} {k : Nat} {t : Addr} {a b : Value} {Q : Unit → Shared → Prop} (S : St h₀ g z L K vals ms s) (hh : A.handled = none) (ht : s.heap.IsTuple t #[a, b])
    (h : ∀ s', St h₀ g z L K vals ms s' → wpAny (model prog w) A (storeName env x a) (fun _ s₁ => wpAny (model prog w) A (storeName env y b) Q E s₁) E s') :
    wpAny (model prog w) A (assign (.Tuple [.Name x px, .Name y py] k pos) env (.ref t)) Q E s := by
  refine wpAny_assign_Tuple hh ht rfl rfl fun h' he => ?_
  have S' : St h₀ g z L K vals ms { s with heap := h' } := by
    have n1 : ∀ b o, s.heap.get? b = some o → h'.get? b = some o := fun b o e => he b o (Nat.ne_of_lt (Heap.lt_size e)) e
    obtain ⟨h, tk, e⟩ := S.sh
    have hn : h'.Ns L (mOf K vals) := S.ns.keeps n1
    exact ⟨⟨_, s.toks, by rw [e]⟩, hn, fun b o e => n1 _ _ (S.keep _ _ e), S.zL, S.gL, fun p hp => ⟨n1 _ _ (S.own p hp).1, (S.own p hp).2⟩, S.nd, S.zg, Nat.le_trans S.gL (Nat.le_of_lt hn.lt), S.h0⟩
  show wpAny _ _ (assignInOrder [assign (.Name x px) env, assign (.Name y py) env] [a, b]) _ _ _
  unfold assignInOrder
  refine wpAny_bind (wpAny_holding (wpAny_assign_Name (wpAny_mono (h _ S') (fun _ s₁ h₁ => ?_) fun _ _ e => e)))
  unfold assignInOrder
  refine wpAny_bind (wpAny_holding (wpAny_assign_Name (wpAny_mono h₁ (fun _ s₂ h₂ => ?_) fun _ _ e => e)))
  unfold assignInOrder
  exact wpAny_pure h₂
end
end Mine
namespace Mine
theorem lookup_not_mem {y : Str} : ∀ {l : List (Str × Value)}, y ∉ l.map (·.1) → l.lookup y = none
  | [], _ => rfl
  | p :: l, h => by
    have h1 : (y == p.1) = false := by
      cases q : y == p.1 with
      | false => rfl
      | true => exact absurd (by rw [eq_of_beq q]; simp) h
    rw [show p = (p.1, p.2) from rfl, List.lookup_cons, h1]
    exact lookup_not_mem fun q => h (by simp only [List.map_cons, List.mem_cons]; exact .inr q)
theorem lookup_rev {y : Str} : ∀ {l : List (Str × Value)}, (l.map (·.1)).Nodup → l.reverse.lookup y = l.lookup y
  | [], _ => rfl
  | p :: l, h => by
    obtain ⟨k, v⟩ := p
    rw [List.map_cons, List.nodup_cons] at h
    rw [List.reverse_cons, List.lookup_append, lookup_rev h.2]
    simp only [List.lookup_cons, List.lookup_nil]
    cases q : y == k with
    | false => simp
    | true =>
      have : l.lookup y = none := lookup_not_mem (by rw [eq_of_beq q]; exact h.1)
      rw [this]; rfl
theorem mOf_none (y : Str) : ∀ (K : List Str) (n : Nat), mOf K (List.replicate n none) y = none
  | [], _ => by cases ‹Nat› <;> rfl
  | _ :: _, 0 => rfl
  | k :: ks, n + 1 => by
    rw [List.replicate_succ]
    simp only [mOf]
    split
    · rfl
    · exact mOf_none y ks n
theorem mOf_zip (y : Str) (rest : List Str) (n : Nat) : ∀ (names : List Str) (vs : List Value), names.length = vs.length → mOf (names ++ rest) (vs.map some ++ List.replicate n none) y = (names.zip vs).lookup y
  | [], [], _ => mOf_none y rest n
  | [], _ :: _, h => by simp at h
  | _ :: _, [], h => by simp at h
  | k :: ks, v :: vs, h => by
    simp only [List.cons_append, List.map_cons, mOf, List.zip_cons_cons, List.lookup_cons]
    rw [mOf_zip y rest n ks vs (by simpa using h)]
    by_cases q : y = k
    · simp [q]
    · have : (y == k) = false := by simpa using q
      simp [q, this]
theorem binds_mOf {names rest : List Str} {vs : List Value} (n : Nat) (hl : names.length = vs.length) (hn : names.Nodup) :
    (fun x => ((names.zip vs).reverse).lookup x) = mOf (names ++ rest) (vs.map some ++ List.replicate n none) := by
  funext y
  rw [mOf_zip y rest n names vs hl]
  refine lookup_rev ?_
  rw [List.map_fst_zip (by omega)]
  exact hn

theorem StrsAre.at {vs : List Value} {xs : List Str} (h : StrsAre vs xs) : ∀ {i : Nat} {v : Value}, vs[i]? = some v → ∃ x t, v = .str x t ∧ xs[i]? = some x := by
  induction h with
  | nil => intro i v hv; simp at hv
  | cons x t _ ih =>
    intro i v hv
    cases i with
    | zero => simp at hv; exact ⟨x, t, hv.symm, rfl⟩
    | succ i => simpa using ih (by simpa using hv)
end Mine
namespace Mine
def RetQ (P : Value → Shared → Prop) : Flow → Shared → Prop
  | .ret v, s => P v s
  | _, _ => False
theorem rqR {P : Value → Shared → Prop} {v : Value} {s : Shared} (h : P v s) : RetQ P (.ret v) s := h

structure ScopeOk (sc : Scope) (K Gs : List Str) : Prop where
  kind : sc.kind = .function
  kl : ∀ x ∈ K, sc.names.lookup x = some .local
  kg : ∀ x ∈ Gs, sc.names.lookup x = some .globalImplicit
  nd : K.Nodup
  nb : ("__debug__" : Str) ∉ K
  ng : ("__debug__" : Str) ∉ Gs
  cell : ∀ x ∈ sc.names, x.2 ≠ .cell
  co : sc.isCoroutine = false
  gen : sc.isGenerator = false

theorem enterFn {prog : Program} {w : World} {A : Around} {h₀ : Heap} {s : Shared} {f : Addr} {names rest K Gs : List Str} {vs args : List Value} {vals : List (Option Value)} {P : Value → Shared → Prop}
    {name qual : Str} {params : Arguments} {body : List Stmt} {sc : Scope} {dV kV doc pm cdv ct oc : Value} {an od : Option Addr} {osl : Array (Option Value)}
    (ho : h₀.get? f = some ⟨oc, od, .func (fnOf name qual params body sc dV kV doc pm an cdv ct), osl⟩) (hcd : h₀.CodeRec cdv qual) (hlim : h₀.NoLimit)
    (hs : Le h₀.get? s.heap.get?) (hroom : A.depth < 1000)
    (hbind : BindsTo s (fnOf name qual params body sc dV kV doc pm an cdv ct) ⟨args, []⟩ (names.zip vs)) (hl : names.length = vs.length)
    (O : ScopeOk sc K Gs) (hK : names ++ rest = K) (hV : vs.map some ++ List.replicate rest.length none = vals)
    (h : ∀ s' env E', EnvOk env s.heap.objs.size K Gs → (0 < vs.length → 0 < s'.toks) → St h₀ s s.heap.get? s.heap.objs.size K vals [] s' → wpAny (model prog w) (A.deeper env) (execs body env) (RetQ P) E' s') :
    codeAny (model prog w) A (.call (.ref f) ⟨args, []⟩) (fun r s' => ∃ v, r = .ok (.ret v) ∧ P v s') s := by
  subst hK; subst hV
  have hnd : names.Nodup := (List.nodup_append.mp O.nd).1
  refine enter hs hroom ho rfl hlim hcd rfl hbind O.cell (fun x hx => O.kl x.1 (List.mem_append_left _ (List.of_mem_zip hx).1)) (binds_mOf (rest := rest) rest.length hl hnd) ?_ O.co O.gen O.kind
  intro s' ht S
  refine wpAny_mono (h s' _ _ ⟨O.kind, rfl, rfl, rfl, O.kl, O.kg, O.nd, O.nb, O.ng⟩ (fun q => ht _ rfl (by rw [List.length_zip]; omega)) S) (fun fl s₂ h₂ => ?_) fun _ _ e => e
  cases fl <;> first | exact h₂.elim | exact ⟨_, rfl, h₂⟩
end Mine

namespace Mine
open PySem.Builtin.Str
abbrev tl (x : Str) : List Nat := x.cps.toList
theorem tl_inj {x y : Str} (h : tl x = tl y) : x = y := Str.ext' (Array.toList_inj.mp h)
theorem tl_append (x y : Str) : tl (x ++ y) = tl x ++ tl y := by show (x.cps ++ y.cps).toList = _; simp
theorem len_tl (x : Str) : x.length = (tl x).length := by simp [Str.length]

theorem sw_iff {x y : Str} : Txt.startswith x y = true ↔ tl y <+: tl x := by
  unfold Txt.startswith
  rw [StrLaws.subAt_eq, List.drop_zero, Bool.and_eq_true, decide_eq_true_eq, beq_iff_eq, List.prefix_iff_eq_take, len_tl, len_tl, Nat.zero_add]
  constructor
  · rintro ⟨_, h⟩; exact h.symm
  · intro h
    refine ⟨?_, h.symm⟩
    have := congrArg List.length h
    rw [List.length_take] at this; omega

theorem slice_eq (x : Str) (l u : Option Int) : Txt.slice x l u = StrLaws.sliceText x l u := rfl
theorem idx_clip (l u : Option Int) (n : Nat) : strSliceIndices (l.map fun i => min i n) (u.map fun i => min i n) 1 n = strSliceIndices l u 1 n := by
  have key : ∀ i : Int, max (0 : Int) (min (if min i (n : Int) < 0 then min i (n : Int) + (n : Int) else min i (n : Int)) (n : Int)) = max (0 : Int) (min (if i < 0 then i + (n : Int) else i) (n : Int)) := by
    intro i; split <;> split <;> omega
  unfold strSliceIndices
  cases l <;> cases u <;> simp only [Option.map_none, Option.map_some, show (1 : Int) > 0 from by decide, if_true, key]
theorem slice_clip (x : Str) (l u : Option Int) : Txt.slice x l u = Txt.slice x (l.map fun i => min i x.length) (u.map fun i => min i x.length) := by
  unfold Txt.slice
  rw [idx_clip]
theorem sl_from {x : Str} {k : Nat} : tl (Txt.slice x (some (k : Int)) none) = (tl x).drop k := by
  rw [slice_clip, Option.map_some, Option.map_none, show min (k : Int) (x.length : Int) = ((min k x.length : Nat) : Int) from by omega]
  have e : x.length = x.cps.toList.length := len_tl x
  rw [slice_eq, StrLaws.sliceText_from ⟨by omega, by omega⟩]
  show ((tl x).drop ((min k x.length : Nat) : Int).toNat).take _ = _
  rw [Int.toNat_natCast, List.take_of_length_le]
  · by_cases h : k ≤ x.length
    · rw [Nat.min_eq_left h]
    · rw [Nat.min_eq_right (by omega), List.drop_eq_nil_of_le (by rw [len_tl]; exact Nat.le_refl _), List.drop_eq_nil_of_le (by rw [← len_tl]; omega)]
  · rw [List.length_drop, ← len_tl]; omega
theorem sl_to {x : Str} {k : Nat} : tl (Txt.slice x none (some (k : Int))) = (tl x).take k := by
  rw [slice_clip, Option.map_some, Option.map_none, show min (k : Int) (x.length : Int) = ((min k x.length : Nat) : Int) from by omega]
  have e : x.length = x.cps.toList.length := len_tl x
  rw [slice_eq, StrLaws.sliceText_to ⟨by omega, by omega⟩]
  show ((tl x).drop 0).take (((min k x.length : Nat) : Int) - 0).toNat = _
  rw [List.drop_zero, Int.sub_zero, Int.toNat_natCast, len_tl, Nat.min_comm, ← List.take_take]
  exact List.take_of_length_le (by rw [List.length_take]; omega)
theorem sl_ss {x : Str} {a b : Nat} (hab : a ≤ b) : tl (Txt.slice x (some (a : Int)) (some (b : Int))) = ((tl x).drop a).take (b - a) := by
  rw [slice_clip, Option.map_some, Option.map_some, show min (a : Int) (x.length : Int) = ((min a x.length : Nat) : Int) from by omega, show min (b : Int) (x.length : Int) = ((min b x.length : Nat) : Int) from by omega]
  have e : x.length = x.cps.toList.length := len_tl x
  rw [slice_eq, StrLaws.sliceText_nat x (by omega) (by omega)]
  show ((tl x).drop (min a x.length)).take (min b x.length - min a x.length) = _
  by_cases h : a ≤ x.length
  · rw [Nat.min_eq_left h]
    by_cases h2 : b ≤ x.length
    · rw [Nat.min_eq_left h2]
    · rw [Nat.min_eq_right (by omega), List.take_of_length_le (by rw [List.length_drop, len_tl]; exact Nat.le_refl _), List.take_of_length_le (by rw [List.length_drop, ← len_tl]; omega)]
  · rw [show min a x.length = (tl x).length from by rw [len_tl] at h ⊢; omega, List.drop_length, List.drop_eq_nil_of_le (by rw [← len_tl]; omega)]
    simp

theorem in_iff {x y : Str} : (!(occurrences x y 0 x.length 1).isEmpty) = true ↔ tl y <:+: tl x := by
  rw [StrLaws.found_iff]
  constructor
  · rintro ⟨i, h1, h2⟩
    rw [StrLaws.subAt_eq, beq_iff_eq] at h2
    refine ⟨(tl x).take i, (tl x).drop (i + y.length), ?_⟩
    show (tl x).take i ++ tl y ++ _ = _
    rw [show tl y = _ from h2.symm, List.append_assoc, ← List.drop_drop]
    rw [List.take_append_drop, List.take_append_drop]
  · rintro ⟨a, b, h⟩
    refine ⟨a.length, ?_, ?_⟩
    · have := congrArg List.length h
      simp only [List.length_append] at this
      rw [len_tl, len_tl]; omega
    · rw [StrLaws.subAt_eq, beq_iff_eq]
      show ((tl x).drop a.length).take y.length = tl y
      rw [← h, List.append_assoc, List.drop_left, len_tl, List.take_left]

theorem join_flat (c : Nat) (z : Str) : ∀ parts : List Str, (∀ p ∈ parts, c ∉ tl p) → tl (Str.join z parts) = (tl (Str.join ⟨#[c]⟩ parts)).flatMap fun d => if d = c then tl z else [d]
  | [], _ => rfl
  | [x], h => by
    have hx := h x (by simp)
    show tl x = (tl x).flatMap _
    have : ∀ l : List Nat, c ∉ l → l.flatMap (fun d => if d = c then tl z else [d]) = l := by
      intro l
      induction l with
      | nil => intro _; rfl
      | cons a l ih =>
        intro hl
        rw [List.flatMap_cons, ih (fun q => hl (by simp [q])), if_neg (fun q => hl (by simp [q]))]; rfl
    exact (this _ hx).symm
  | x :: y :: r, h => by
    have hx := h x (by simp)
    have ih := join_flat c z (y :: r) fun p hp => h p (List.mem_cons_of_mem _ hp)
    show tl (x ++ z ++ Str.join z (y :: r)) = (tl (x ++ ⟨#[c]⟩ ++ Str.join ⟨#[c]⟩ (y :: r))).flatMap _
    have : ∀ l : List Nat, c ∉ l → l.flatMap (fun d => if d = c then tl z else [d]) = l := by
      intro l
      induction l with
      | nil => intro _; rfl
      | cons a l ih =>
        intro hl
        rw [List.flatMap_cons, ih (fun q => hl (by simp [q])), if_neg (fun q => hl (by simp [q]))]; rfl
    rw [tl_append, tl_append, tl_append, tl_append, List.flatMap_append, List.flatMap_append, this _ hx, ih]
    congr 2
    show tl z = [c].flatMap _
    simp
theorem rep_one (x z : Str) (c : Nat) : tl (Txt.replace x ⟨#[c]⟩ z) = (tl x).flatMap fun d => if d = c then tl z else [d] := by
  rw [StrLaws.replace_one, join_flat c z _ (StrLaws.split_free x c), StrLaws.join_split]
end Mine

namespace Mine
section
variable {M : Model} {prog : Program} {w : World} {A : Around} {E : Value → Shared → Prop} {h₀ : Heap} {g : Shared} {z z' : PHeap} {L : Addr} {K Gs : List Str} {vals : List (Option Value)} {ms : List (Addr × Obj)} {s : Shared} {env : Env}

theorem itemZ {value slice : Expr} {l : Addr} {its : Array Value} {k : Int} {u : Tok} {x : Value} {Q : Value → Shared → Prop} (hl : s.heap.IsList l its) (h0 : 0 ≤ k) (hk : k < 2 ^ 63) (hx : its[k.toNat]? = some x) (h : Q x s)
    (hs : subscripted slice false (.ref l) (.int k u) = operate [.ref l, .int k u] (getItem (.ref l) (.int k u)) := by with_unfolding_all rfl) :
    wpAny (model prog w) A (subscriptTail value slice (.ref l) (.int k u)) Q E s :=
  tail_any hl.typeIs slot_list_getitem.lookup (wpAny_getItem_list hl h0 hk hx h) hs
theorem itemT {value slice : Expr} {l : Addr} {its : Array Value} {k : Int} {u : Tok} {x : Value} {Q : Value → Shared → Prop} (hl : s.heap.IsTuple l its) (h0 : 0 ≤ k) (hk : k < 2 ^ 63) (hx : its[k.toNat]? = some x) (h : Q x s)
    (hs : subscripted slice false (.ref l) (.int k u) = operate [.ref l, .int k u] (getItem (.ref l) (.int k u)) := by with_unfolding_all rfl) :
    wpAny (model prog w) A (subscriptTail value slice (.ref l) (.int k u)) Q E s := by
  have hlt : k.toNat < its.size := (Array.getElem?_eq_some_iff.mp hx).1
  have hh : IsTup s.heap l its := hl
  exact tail_any hh.typeIs slot_tuple_getitem.lookup (getItem_tuple hh (by omega) hk (StrLaws.seqIndex_nonneg h0 (by omega)) hx h) hs

theorem mapSeq_same (f : Array Value → Array Value) (its : Array Value) (n : Nat) (h : (f its).size = its.size) : Obj.mapSeq f (listOf its n) = listOf (f its) n := by
  show Obj.mk _ _ (Data.seq (f its) (if (f its).size == its.size then n else n + 1)) _ = _
  rw [h]; simp
theorem mapSeq_less (f : Array Value → Array Value) (its : Array Value) (n : Nat) (h : (f its).size ≠ its.size) : Obj.mapSeq f (listOf its n) = listOf (f its) (n + 1) := by
  show Obj.mk _ _ (Data.seq (f its) (if (f its).size == its.size then n else n + 1)) _ = _
  rw [if_neg (by simpa using h)]

theorem setItemX {l : Addr} {its : Array Value} {n : Nat} {k : Int} {t : Tok} {v : Value} {Q : Unit → Shared → Prop} (ho : s.heap.get? l = some (listOf its n))
    (h0 : 0 ≤ k) (hfit : k < 2 ^ 63) (hn : k < its.size)
    (hQ : ∀ h', h'.get? l = some (listOf (its.setIfInBounds k.toNat v) n) → Heap.SameBut l s.heap h' → Q () { s with heap := h' }) :
    wpAny (model prog w) A (setItem (.ref l) (.int k t) v) Q E s := by
  have hl : s.heap.IsList l its := ⟨_, ho, rfl, _, rfl⟩
  unfold setItem
  try with_reducible refine wpAny_holding ?_
  first | refine wpAny_bind (wpAny_pure ?_) | skip
  refine wpAny_bind (wpAny_sequenceKey hl.typeIs (by decide) ?_)
  refine wpAny_bind (wpAny_callSpecial?_slot (name := Str.ofString "__setitem__") hl.typeIs slot_list_setitem
    (wpAny_call_entry slot_list_setitem hl.typeIs entry_list_setitem ?_ (args_list_setitem _ _ _)))
  show wpAny _ _ (Builtin.List.listSubscript? (.int k t) >>= _) _ _ s
  refine wpAny_bind (wpAny_listSubscript_int (fitsIndex_of h0 hfit) ?_)
  clear hfit
  obtain ⟨j, rfl⟩ := Int.eq_ofNat_of_zero_le h0
  have hj : j < its.size := by omega
  show wpAny _ _ ((seqItemAt l j >>= fun r => pure (r.map (j, ·))) >>= _) _ _ s
  refine wpAny_bind (wpAny_bind (wpAny_seqItemAt ho rfl (wpAny_pure ?_)))
  rw [show its[j]? = some its[j] from Array.getElem?_eq_getElem hj]
  show wpAny _ _ (setSeqItemAt l j v >>= _) _ _ s
  have hfin : (s.heap.update l (Obj.mapSeq (·.setIfInBounds j v))).get? l = some (listOf (its.setIfInBounds j v) n) := by
    have e := mapSeq_same (·.setIfInBounds j v) its n (by simp)
    rw [Heap.get?_update_self _ ho (by rw [e]; rfl), e]
  refine wpAny_bind (wpAny_setSeqItemAt ho rfl ?_)
  first
    | exact wpAny_bind (wpAny_pure (wpAny_pure ⟨.none, rfl, wpAny_pure (hQ _ hfin (Heap.SameBut.update ..))⟩))
    | exact wpAny_pure ⟨.none, rfl, wpAny_pure (hQ _ hfin (Heap.SameBut.update ..))⟩

theorem setAt {pre post : List (Addr × Obj)} {D : Addr} {its : Array Value} {n : Nat} {k : Int} {t : Tok} {v : Value} {Q : Unit → Shared → Prop} (S : St h₀ g z L K vals (pre ++ (D, listOf its n) :: post) s) (h0 : 0 ≤ k) (hfit : k < 2 ^ 63) (hn : k < its.size)
    (h : ∀ s', St h₀ g z L K vals (pre ++ (D, listOf (its.setIfInBounds k.toNat v) n) :: post) s' → Q () s') : wpAny (model prog w) A (setItem (.ref D) (.int k t) v) Q E s :=
  setItemX (S.own (D, listOf its n) (by simp)).1 h0 hfit hn fun _ ho hs => h _ (S.upd hs ho)

theorem popAt {pre post : List (Addr × Obj)} {D : Addr} {its : Array Value} {n : Nat} {k : Int} {t : Tok} {y : Value} {Q : Value → Shared → Prop} (S : St h₀ g z L K vals (pre ++ (D, listOf its n) :: post) s) (h0 : 0 ≤ k) (hn : k < its.size) (hsz : its.size ≤ sizeLine)
    (hy : its[k.toNat]? = some y) (h : ∀ s', St h₀ g z L K vals (pre ++ (D, listOf (its.eraseIdxIfInBounds k.toNat) (n + 1)) :: post) s' → Q y s') : wpAny (model prog w) A (call (.builtin "list.pop") [.ref D, .int k t]) Q E s := by
  have ho := (S.own (D, listOf its n) (by simp)).1
  have hlt : k.toNat < its.size := by omega
  have hf : Builtin.List.listFitsIndex k = true := by
    unfold Builtin.List.listFitsIndex
    have : its.size ≤ 16777216 := by rw [← sizeLine_eq]; exact hsz
    simp only [Bool.and_eq_true, decide_eq_true_eq]; omega
  refine call_meets PySem.F.slot_list_pop ⟨_, ho, rfl⟩ PySem.F.entry_list_pop (PySem.F.args_list_pop_2 _ _) (PySem.MeetsSeq.list_pop_at D its n k t k.toNat y hf (StrLaws.seqIndex_nonneg h0 hn) hy hsz) ⟨ho, ?_⟩
  have e := mapSeq_less (fun xs => xs.eraseIdxIfInBounds k.toNat) its n (by
    have : its.eraseIdxIfInBounds k.toNat = its.eraseIdx k.toNat hlt := by simp [Array.eraseIdxIfInBounds, hlt]
    rw [this, Array.size_eraseIdx]; omega)
  refine h _ (S.upd (Heap.SameBut.update ..) ?_)
  rw [Heap.get?_update_self _ ho (by rw [e]; rfl), e]

theorem addL {l b : Addr} {vs ws : List Value} {n n2 : Nat} {Q : Value → Shared → Prop} (S : St h₀ g z L K vals ms s) (hl : s.heap.get? l = some (listOf vs.toArray n)) (hb : s.heap.get? b = some (listOf ws.toArray n2)) (hsz : vs.length + ws.length ≤ sizeLine)
    (h : ∀ D s', St h₀ g z L K vals ((D, listOf (vs ++ ws).toArray 0) :: ms) s' → Q (.ref D) s') : wpAny (model prog w) A (binaryOp .Add (.ref l) (.ref b)) Q E s := by
  have e : vs.toArray ++ ws.toArray = (vs ++ ws).toArray := by simp
  refine concat_meets ⟨_, hl, rfl⟩ ⟨_, hb, rfl⟩ noFill_list_add seq_list_add PySem.F.slot_list_add PySem.F.entry_list_add (PySem.F.args_list_add_2 _ _) (list_addW l b vs.toArray ws.toArray n n2 none none #[] #[] (by simpa using hsz)) ⟨hl, hb, ?_⟩
  rw [e]
  exact h _ _ (S.alloc rfl)

theorem lenL {l : Addr} {its : Array Value} {Q : Value → Shared → Prop} (S : St h₀ g z L K vals ms s) (hl : s.heap.IsList l its) (hsz : its.size ≤ sizeLine) (h : ∀ t s', St h₀ g z L K vals ms s' → Q (.int its.size t) s') :
    wpAny (model prog w) A (call (.builtin "len") [.ref l]) Q E s :=
  len_list hl (by have : its.size ≤ 16777216 := by rw [← sizeLine_eq]; exact hsz
                  omega) (h _ _ (S.tok _))
theorem getPop {D : Addr} {its : Array Value} {n : Nat} {pl : Sem Bool} {Q : Value × List Value → Shared → Prop} (S : St h₀ g z L K vals ms s) (hm : (D, listOf its n) ∈ ms) (h : Q (.builtin "list.pop", [.ref D]) s) :
    wpAny M A (getMethod (.ref D) "pop" pl) Q E s :=
  getMethod_builtin (T := "list") ⟨_, (S.own _ hm).1, rfl⟩ PySem.F.plainAttrs_list PySem.F.slot_list_pop PySem.F.type_list_pop (fun a e => by cases e; exact ⟨_, (S.own _ hm).1, rfl⟩) h
end
end Mine

namespace Mine
section
variable {prog : Program} {w : World} {A : Around} {E : Value → Shared → Prop} {h₀ : Heap} {g : Shared} {z z' : PHeap} {L : Addr} {K Gs : List Str} {vals : List (Option Value)} {ms : List (Addr × Obj)} {s : Shared} {env : Env}

theorem St.low (S : St h₀ g z L K vals ms s) (hlim : h₀.NoLimit) {D : Addr} (hD : g.heap.objs.size ≤ D) : (D == sysModules) = false :=
  beq_eq_false_iff_ne.mpr (Nat.ne_of_gt (Nat.lt_of_lt_of_le (modules_low (hlim.keeps S.h0)) hD))

theorem dispIn {keys : List (Option Expr)} {values : List Expr} {pos : Pos} {Q : Value → Shared → Prop} (S : St h₀ g z L K vals ms s)
    (hall : keys.all (·.isSome) = true) (hl : keys.length = values.length) (h0 : keys ≠ []) (hlen : keys.length ≤ 15)
    (h : ∀ D s', St h₀ g z L K vals ((D, { cls := .type "dict", data := .dict #[] }) :: ms) s' →
      wpAny (model prog w) A (evalPairs (pairTrees keys values env pos)) (fun vs s₁ => ∃ kvs, Carries (strKind prog w) vs kvs ∧ s₁.heap.DictOf (strKind prog w) D [] ∧
        ∀ h', h'.DictOf (strKind prog w) D (merged [] kvs) → Heap.SameBut D s₁.heap h' → Q (.ref D) { s₁ with heap := h', toks := s₁.toks + vs.length }) E s') :
    wpAny (model prog w) A (eval (.Dict keys values pos) env) Q E s := by
  refine wpAny_Dict_walk (knd := strKind prog w) hall hl h0 hlen ?_
  exact h _ _ (S.alloc rfl)

theorem dispOut {D : Addr} {vs : List (Value × Value)} {Q : Value → Shared → Prop} (S : St h₀ g z L K vals ((D, { cls := .type "dict", data := .dict #[] }) :: ms) s) (hk : allStrKeys vs = true) (hn : ((strPairs vs).map (·.1)).Nodup)
    (h : ∀ o s', o.IsDictOf (strKind prog w) (strPairs vs) → St h₀ g z L K vals ((D, o) :: ms) s' → Q (.ref D) s') :
    ∃ kvs, Carries (strKind prog w) vs kvs ∧ s.heap.DictOf (strKind prog w) D [] ∧ ∀ h', h'.DictOf (strKind prog w) D (merged [] kvs) → Heap.SameBut D s.heap h' → Q (.ref D) { s with heap := h', toks := s.toks + vs.length } := by
  refine display_done_str hk hn ?_ fun h' hd hs => ?_
  · exact Heap.dictOf_iff.mpr ⟨_, (S.own _ (.head _)).1, #[], _, ⟨rfl, rfl, rfl⟩, rfl, fun e he => by simp at he, .nil, List.nodup_nil⟩
  · obtain ⟨o, ho, hd⟩ := Heap.dictOf_iff.mp hd
    exact h o _ hd ((S.upd (pre := []) hs ho).tok _)

theorem putD2 {pre post : List (Addr × Obj)} {D : Addr} {o : Obj} {kvs : List (Str × Value)} {x : Str} {t : Tok} {v : Value} {Q : Unit → Shared → Prop} (S : St h₀ g z L K vals (pre ++ (D, o) :: post) s) (hd : o.IsDictOf (strKind prog w) kvs) (hsz : kvs.length ≤ sizeLine)
    (h : ∀ o' s', o'.IsDictOf (strKind prog w) (stored kvs x v) → St h₀ g z L K vals (pre ++ (D, o') :: post) s' → Q () s') : wpAny (model prog w) A (setItem (.ref D) (.str x t) v) Q E s := by
  refine wpAny_setItem_pairs (hsz := hsz) (strKind_is prog w x t) (Heap.dictOf_iff.mpr ⟨o, (S.own (D, o) (by simp)).1, hd⟩) fun h' hmm hs => ?_
  obtain ⟨o', ho', hd'⟩ := Heap.dictOf_iff.mp hmm
  exact h o' _ hd' ((S.upd hs ho').tok _)

theorem inD {D : Addr} {o : Obj} {kvs : List (Str × Value)} {x : Str} {t : Tok} {Q : Value → Shared → Prop} (S : St h₀ g z L K vals ms s) (hlim : h₀.NoLimit) (hm : (D, o) ∈ ms) (hd : o.IsDictOf (strKind prog w) kvs)
    (h : ∀ s', St h₀ g z L K vals ms s' → Q (.bool (valueAt kvs x).isSome) s') : wpAny (model prog w) A (compareOp .In (.str x t) (.ref D)) Q E s :=
  wpAny_in_of (strKind_is prog w x t) (S.low hlim (S.own _ hm).2.2.2) (Heap.dictOf_iff.mpr ⟨o, (S.own _ hm).1, hd⟩).mapOf (h _ (S.tok _))
theorem notInD {D : Addr} {o : Obj} {kvs : List (Str × Value)} {x : Str} {t : Tok} {Q : Value → Shared → Prop} (S : St h₀ g z L K vals ms s) (hlim : h₀.NoLimit) (hm : (D, o) ∈ ms) (hd : o.IsDictOf (strKind prog w) kvs)
    (h : ∀ s', St h₀ g z L K vals ms s' → Q (.bool (!(valueAt kvs x).isSome)) s') : wpAny (model prog w) A (compareOp .NotIn (.str x t) (.ref D)) Q E s :=
  wpAny_notIn_of (strKind_is prog w x t) (S.low hlim (S.own _ hm).2.2.2) (Heap.dictOf_iff.mpr ⟨o, (S.own _ hm).1, hd⟩).mapOf (h _ (S.tok _))
theorem itemD {value slice : Expr} {D : Addr} {o : Obj} {kvs : List (Str × Value)} {x : Str} {t : Tok} {v : Value} {Q : Value → Shared → Prop} (S : St h₀ g z L K vals ms s) (hm : (D, o) ∈ ms) (hd : o.IsDictOf (strKind prog w) kvs) (hv : valueAt kvs x = some v)
    (h : ∀ s', St h₀ g z L K vals ms s' → Q v s') (hs : subscripted slice false (.ref D) (.str x t) = operate [.ref D, .str x t] (getItem (.ref D) (.str x t)) := by with_unfolding_all rfl) :
    wpAny (model prog w) A (subscriptTail value slice (.ref D) (.str x t)) Q E s := by
  have X : s.heap.DictOf (strKind prog w) D kvs := Heap.dictOf_iff.mpr ⟨o, (S.own _ hm).1, hd⟩
  exact tail_any X.typeIs slot_dict_getitem.lookup (wpAny_getItem_of (strKind_is prog w x t) X.mapOf hv (h _ (S.tok _))) hs
end
end Mine

namespace Mine

def defAt (p : Program) (i : Nat) : Option (Arguments × List Stmt × Scope) := match p.main.body[i]? with
  | some (.FunctionDef _ a b _ _ _ sc _ _ _) => some (a, b, sc)
  | _ => none
def paramsOf (p : Program) (i : Nat) : Arguments := match defAt p i with | some (a, _, _) => a | none => default
def bodyOf (p : Program) (i : Nat) : List Stmt := match defAt p i with | some (_, b, _) => b | none => []
def scopeOf (p : Program) (i : Nat) : Scope := match defAt p i with | some (_, _, s) => s | none => default

/-- the def stands at f -/
def Fn (h₀ : Heap) (p : Program) (i : Nat) (dV : Value) (f : Addr) : Prop :=
  ∃ oc od osl name qual kV doc pm an cdv ct, h₀.get? f = some ⟨oc, od, .func (fnOf name qual (paramsOf p i) (bodyOf p i) (scopeOf p i) dV kV doc pm an cdv ct), osl⟩ ∧ h₀.CodeRec cdv qual
def FnIn (K : Frag) (p : Program) (i : Nat) (dV : Value) (f : Addr) : Prop :=
  ∃ oc od osl name qual kV doc pm an cdv ct, K.lookup f = some ⟨oc, od, .func (fnOf name qual (paramsOf p i) (bodyOf p i) (scopeOf p i) dV kV doc pm an cdv ct), osl⟩ ∧ codeIn K cdv qual = true
theorem FnIn.fn {K : Frag} {h : Heap} {p : Program} {i : Nat} {dV : Value} {f : Addr} (X : K.In h) (F : FnIn K p i dV f) : Fn h p i dV f := by
  obtain ⟨oc, od, osl, name, qual, kV, doc, pm, an, cdv, ct, h1, h2⟩ := F
  exact ⟨oc, od, osl, name, qual, kV, doc, pm, an, cdv, ct, X _ _ h1, codeRec_of X h2⟩

def P1 : Program := PySem.Challenge.pw_sn0004_01

structure G1 (h₀ : Heap) (mg mb : Str → Option Value) : Prop where
  lim : h₀.NoLimit
  gn : h₀.Ns mainGlobals mg
  bn : h₀.Ns builtinsNs mb
  g22 : mg "escape" = some (.ref 22)
  g29 : mg "_law_filling" = some (.ref 29)
  g36 : mg "_law_tree" = some (.ref 36)
  g43 : mg "_law_page" = some (.ref 43)
  g50 : mg "_law_plain" = some (.ref 50)
  g57 : mg "_law_read" = some (.ref 57)
  glen : mg "len" = none
  grange : mg "range" = none
  gisi : mg "isinstance" = none
  gstr : mg "str" = none
  blen : mb "len" = some (.builtin "len")
  brange : mb "range" = some (.type "range")
  bisi : mb "isinstance" = some (.builtin "isinstance")
  bstr : mb "str" = some (.type "str")
  f22 : Fn h₀ P1 1 (.ref 15) 22
  d15 : h₀.get? 15 = some (tupOf #[.bool true])
  f29 : Fn h₀ P1 3 .none 29
  f36 : Fn h₀ P1 4 .none 36
  f43 : Fn h₀ P1 5 .none 43
  f50 : Fn h₀ P1 6 .none 50
  f57 : Fn h₀ P1 7 .none 57

theorem ints_get {vs : List Value} {ns : List Int} (h : IntsAre vs ns) : ∀ {i : Nat}, i < ns.length → ∃ d tk, vs[i]? = some (.int d tk) ∧ ns[i]? = some d := by
  induction h with
  | nil => intro i hi; simp at hi
  | cons k t _ ih =>
    intro i hi
    cases i with
    | zero => exact ⟨k, t, rfl, rfl⟩
    | succ i => simpa using ih (by simpa using hi)
theorem ints_set {vs : List Value} {ns : List Int} (h : IntsAre vs ns) (d : Int) (tk : Tok) : ∀ (i : Nat), IntsAre (vs.set i (.int d tk)) (ns.set i d) := by
  induction h with
  | nil => intro i; exact .nil
  | cons k t h ih =>
    intro i
    cases i with
    | zero => exact .cons _ _ h
    | succ i => exact .cons _ _ (ih i)
theorem fmod_pos {a b : Int} (h : 0 < b) : 0 ≤ a.fmod b ∧ a.fmod b < b := by
  rw [Int.fmod_eq_emod_of_nonneg a (by omega)]
  exact ⟨Int.emod_nonneg a (by omega), Int.emod_lt_of_pos a h⟩
theorem strs_get {vs : List Value} {xs : List Str} (h : StrsAre vs xs) : ∀ {i : Nat}, i < xs.length → ∃ x tk, vs[i]? = some (.str x tk) ∧ xs[i]? = some x := by
  induction h with
  | nil => intro i hi; simp at hi
  | cons k t _ ih =>
    intro i hi
    cases i with
    | zero => exact ⟨k, t, rfl, rfl⟩
    | succ i => simpa using ih (by simpa using hi)

section
variable {M : Model} {A : Around} {E : Value → Shared → Prop} {h₀ : Heap} {mg mb : Str → Option Value} {g : Shared} {z z' : PHeap} {L : Addr} {K Gs : List Str} {vals : List (Option Value)} {ms : List (Addr × Obj)} {s : Shared} {env : Env}
theorem ldLen {pos : Pos} {Q : Value → Shared → Prop} (S : St h₀ g z L K vals ms s) (O : EnvOk env L K Gs) (G : G1 h₀ mg mb) (hx : Str.ofString "len" ∈ Gs) (h : Q (.builtin "len") s) :
    wpAny M A (eval (.Name (Str.ofString "len") pos) env) Q E s := ldB S O hx G.gn G.glen G.bn G.blen h
theorem ldRange {pos : Pos} {Q : Value → Shared → Prop} (S : St h₀ g z L K vals ms s) (O : EnvOk env L K Gs) (G : G1 h₀ mg mb) (hx : Str.ofString "range" ∈ Gs) (h : Q (.type "range") s) :
    wpAny M A (eval (.Name (Str.ofString "range") pos) env) Q E s := ldB S O hx G.gn G.grange G.bn G.brange h
theorem ldIsi {pos : Pos} {Q : Value → Shared → Prop} (S : St h₀ g z L K vals ms s) (O : EnvOk env L K Gs) (G : G1 h₀ mg mb) (hx : Str.ofString "isinstance" ∈ Gs) (h : Q (.builtin "isinstance") s) :
    wpAny M A (eval (.Name (Str.ofString "isinstance") pos) env) Q E s := ldB S O hx G.gn G.gisi G.bn G.bisi h
theorem ldStr {pos : Pos} {Q : Value → Shared → Prop} (S : St h₀ g z L K vals ms s) (O : EnvOk env L K Gs) (G : G1 h₀ mg mb) (hx : Str.ofString "str" ∈ Gs) (h : Q (.type "str") s) :
    wpAny M A (eval (.Name (Str.ofString "str") pos) env) Q E s := ldB S O hx G.gn G.gstr G.bn G.bstr h
theorem isiS {w : World} {x : Str} {t : Tok} {Q : Value → Shared → Prop} (h : Q (.bool true) s) : wpAny (model P1 w) A (call (.builtin "isinstance") [.str x t, .type "str"]) Q E s := IsiPair.str_str h
theorem isiL {w : World} {l : Addr} {its : Array Value} {n : Nat} {Q : Value → Shared → Prop} (S : St h₀ g z L K vals ms s) (hz : z l = some (listOf its n)) (h : ∀ s', St h₀ g z L K vals ms s' → Q (.bool false) s') :
    wpAny (model P1 w) A (call (.builtin "isinstance") [.ref l, .type "str"]) Q E s := IsiPair.list_str (S.keep _ _ hz) rfl (h _ (S.tok _))
end
end Mine

namespace Mine
local macro_rules | `(tactic| walk_at "z ctl") => `(tactic| first | with_reducible refine iteT ?_ | with_reducible refine iteF ?_ | with_reducible refine nqN ?_ | with_reducible refine nqR ?_ | with_reducible refine nqB ?_ | with_reducible refine tqN ?_ | with_reducible refine tqB ?_ | with_reducible refine tqR ?_ | with_reducible refine rqR ?_ | with_reducible refine wpAny_execs_nil ?_ | with_reducible refine wpAny_If ?_ | with_reducible refine wpAny_Return_some ?_ | with_reducible refine wpAny_BinOp ?_ | with_reducible refine Subscript_ ?_ | with_reducible refine wpAny_Break ?_ | with_reducible refine Tuple_ ?_ | with_reducible refine List_ ?_ | with_reducible refine spliced_none ?_ | with_reducible refine callWith_method0 ?_ | with_reducible refine isTrue_and_nil ?_ | with_reducible refine isTrue_or_nil ?_ | with_reducible refine isTrue_and ?_ | with_reducible refine isTrue_or ?_ | with_reducible refine isTrue_not ?_ | with_reducible refine BoolOp_one ?_ | with_reducible refine BoolOp_and ?_ | with_reducible refine BoolOp_or ?_ | with_reducible refine wpAny_truthy_bool ?_ | with_reducible refine Constant_bool ?_ | with_reducible refine Constant_none ?_ | with_reducible refine evalPart_none_step ?_ | with_reducible refine evalPart_some_step ?_ | with_reducible refine wpAny_Slice ?_ | with_reducible refine GM.startswith ?_ | with_reducible refine GM.replace ?_ | with_reducible refine GM.find ?_ | with_reducible refine GM.split ?_ | with_reducible refine SC.startswith ?_ | with_reducible refine eq_str ?_ | with_reducible refine in_str ?_ | with_reducible refine ne_bool ?_ | with_reducible refine eq_int ?_ | with_reducible refine lt_int ?_ | with_reducible refine gt_int ?_ | ((with_reducible show wpAny _ _ (exec (Stmt.Assign [Expr.Name _ _] _ _) _) _ _ _); refine wpAny_Assign_Name ?_) | ((with_reducible show wpAny _ _ (exec (Stmt.Assign [Expr.Subscript _ _ _] _ _) _) _ _ _); refine wpAny_Assign_Subscript ?_) | ((with_reducible show wpAny _ _ (exec (Stmt.Expr _ _) _) _ _ _); refine exprZ (by assumption) ?_) | ((with_reducible show wpAny _ _ (exec (Stmt.For _ _ _ _ _) _) _ _ _); refine wpAny_For ?_) | ((with_reducible show wpAny _ _ (eval (Expr.Compare _ [_] [_] _) _) _ _ _); refine wpAny_Compare1 ?_) | ((with_reducible show wpAny _ _ (PySem.isTrue (Expr.Compare _ [_] [_] _) _ _) _ _ _); refine wpAny_isTrue_Compare1 ?_) | ((with_reducible show wpAny _ _ (PySem.isTrue (Expr.Name _ _) _ _) _ _ _); refine isTrue_plain ?_) | ((with_reducible show wpAny _ _ (PySem.isTrue (Expr.Call _ _ _ _) _ _) _ _ _); refine isTrue_plain ?_) | ((with_reducible show wpAny _ _ (eval (Expr.Call (Expr.Attribute _ _ _) _ [] _) _) _ _ _); refine MethodCall_ ?_) | ((with_reducible show wpAny _ _ (eval (Expr.Call (Expr.Name _ _) _ [] _) _) _ _ _); refine Call_ ?_) | ((with_reducible show wpAny _ _ (spliced (backTo _ (starEach (_ :: _) _))) _ _ _); refine spliced_more ?_) | ((with_reducible show wpAny _ _ (callWith _ (Value.builtin _) [] (backTo _ (starEach (_ :: _) _)) []) _ _ _); refine PyProof.Rows.callWith_builtin1 ?_) | ((with_reducible show wpAny _ _ (callWith _ (Value.builtin _) [_] (backTo _ (starEach (_ :: _) _)) []) _ _ _); refine cwM1 ?_) | ((with_reducible show wpAny _ _ (callWith _ (Value.type _) [] (backTo _ (starEach (_ :: _) _)) []) _ _ _); refine PyProof.Rows.callWith_type1 ?_))
local macro_rules | `(tactic| walk_at "z ld") => `(tactic| ((with_reducible rename St _ _ _ _ _ _ _ _ => zS); (with_reducible show wpAny _ _ (eval (Expr.Name _ _) _) _ _ _); first | with_reducible refine ld0 zS (by with_reducible assumption) ?_ | with_reducible refine ld1 zS (by with_reducible assumption) ?_ | with_reducible refine ld2 zS (by with_reducible assumption) ?_ | with_reducible refine ld3 zS (by with_reducible assumption) ?_ | with_reducible refine ld4 zS (by with_reducible assumption) ?_ | with_reducible refine ld5 zS (by with_reducible assumption) ?_ | with_reducible refine ld6 zS (by with_reducible assumption) ?_ | with_reducible refine ld7 zS (by with_reducible assumption) ?_ | with_reducible refine ld8 zS (by with_reducible assumption) ?_ | with_reducible refine ld9 zS (by with_reducible assumption) ?_ | with_reducible refine ld10 zS (by with_reducible assumption) ?_ | with_reducible refine ld11 zS (by with_reducible assumption) ?_ | with_reducible refine ld12 zS (by with_reducible assumption) ?_ | with_reducible refine ld13 zS (by with_reducible assumption) ?_ | with_reducible refine ld14 zS (by with_reducible assumption) ?_ | with_reducible refine ld15 zS (by with_reducible assumption) ?_ | with_reducible refine ld16 zS (by with_reducible assumption) ?_ | with_reducible refine ld17 zS (by with_reducible assumption) ?_ | with_reducible refine ld18 zS (by with_reducible assumption) ?_ | with_reducible refine ld19 zS (by with_reducible assumption) ?_ | with_reducible refine ld20 zS (by with_reducible assumption) ?_ | with_reducible refine ld21 zS (by with_reducible assumption) ?_))
local macro_rules | `(tactic| walk_at "z st") => `(tactic| ((with_reducible rename St _ _ _ _ _ _ _ _ => zS); (with_reducible show wpAny _ _ (storeName _ _ _) _ _ _); (first | with_reducible refine st0 zS (by with_reducible assumption) ?_ | with_reducible refine st1 zS (by with_reducible assumption) ?_ | with_reducible refine st2 zS (by with_reducible assumption) ?_ | with_reducible refine st3 zS (by with_reducible assumption) ?_ | with_reducible refine st4 zS (by with_reducible assumption) ?_ | with_reducible refine st5 zS (by with_reducible assumption) ?_ | with_reducible refine st6 zS (by with_reducible assumption) ?_ | with_reducible refine st7 zS (by with_reducible assumption) ?_ | with_reducible refine st8 zS (by with_reducible assumption) ?_ | with_reducible refine st9 zS (by with_reducible assumption) ?_ | with_reducible refine st10 zS (by with_reducible assumption) ?_ | with_reducible refine st11 zS (by with_reducible assumption) ?_ | with_reducible refine st12 zS (by with_reducible assumption) ?_ | with_reducible refine st13 zS (by with_reducible assumption) ?_ | with_reducible refine st14 zS (by with_reducible assumption) ?_ | with_reducible refine st15 zS (by with_reducible assumption) ?_ | with_reducible refine st16 zS (by with_reducible assumption) ?_ | with_reducible refine st17 zS (by with_reducible assumption) ?_ | with_reducible refine st18 zS (by with_reducible assumption) ?_ | with_reducible refine st19 zS (by with_reducible assumption) ?_ | with_reducible refine st20 zS (by with_reducible assumption) ?_ | with_reducible refine st21 zS (by with_reducible assumption) ?_); clear zS; intro _ _ _))
local macro_rules | `(tactic| walk_at "z op") => `(tactic| ((with_reducible rename St _ _ _ _ _ _ _ _ => zS); (first | with_reducible refine kInt zS ?_ | with_reducible refine kStr zS ?_ | with_reducible refine addI zS ?_ | with_reducible refine modI zS (by decide) ?_ | with_reducible refine subI zS ?_ | with_reducible refine range1 zS ?_ | with_reducible refine findS zS ?_); clear zS; intros))
local macro_rules | `(tactic| walk_at "z new") => `(tactic| ((with_reducible rename St _ _ _ _ _ _ _ _ => zS); (first | ((with_reducible show wpAny _ _ (newTuple _) _ _ _); refine newT zS ?_ ?_; exact Nat.le_of_ble_eq_true rfl) | ((with_reducible show wpAny _ _ (newList _) _ _ _); refine newL zS ?_ ?_; exact Nat.le_of_ble_eq_true rfl)); clear zS; intro _ _ _))
local macro_rules | `(tactic| walk_at "zz") => `(tactic| first | walk_at "z ctl" | walk_at "z ld" | walk_at "z st" | walk_at "z op" | walk_at "z nm")
local macro_rules | `(tactic| walk_at "z") => `(tactic| first | with_reducible refine exC ?_ | walk_at "zz")
local macro_rules | `(tactic| walk_at "zn") => `(tactic| first | walk_at "zz" | walk_at "z new")

local macro_rules | `(tactic| walk_at "z nm") => `(tactic| ((with_reducible rename St _ _ _ _ _ _ _ _ => zS); (first | with_reducible refine ldLen zS (by with_reducible assumption) (by with_reducible assumption) (by decide) ?_ | with_reducible refine ldRange zS (by with_reducible assumption) (by with_reducible assumption) (by decide) ?_ | with_reducible refine ldIsi zS (by with_reducible assumption) (by with_reducible assumption) (by decide) ?_ | with_reducible refine ldStr zS (by with_reducible assumption) (by with_reducible assumption) (by decide) ?_ | with_reducible refine isiS ?_)))

section

def escF (b : Bool) (x : Str) : Str :=
  let y := Txt.replace (Txt.replace (Txt.replace x (Str.ofString "&") (Str.ofString "&amp;")) (Str.ofString "<") (Str.ofString "&lt;")) (Str.ofString ">") (Str.ofString "&gt;")
  if b = true then Txt.replace (Txt.replace y (Str.ofString "\"") (Str.ofString "&quot;")) (Str.ofString "'") (Str.ofString "&#x27;") else y

def spc (d : Nat) : Bool := d == 38 || d == 60 || d == 62 || d == 34 || d == 39
def sp (x : Str) : Nat := (tl x).countP spc
def escCh (b : Bool) (d : Nat) : List Nat :=
  if d = 38 then [38, 97, 109, 112, 59] else if d = 60 then [38, 108, 116, 59] else if d = 62 then [38, 103, 116, 59]
  else if b = true ∧ d = 34 then [38, 113, 117, 111, 116, 59] else if b = true ∧ d = 39 then [38, 35, 120, 50, 55, 59] else [d]

theorem flat_sp {f : Nat → List Nat} (h : ∀ d, (f d).length ≤ 1 + 5 * (if spc d = true then 1 else 0)) : ∀ l : List Nat, (l.flatMap f).length ≤ l.length + 5 * l.countP spc
  | [] => by simp
  | a :: l => by
    have h1 := h a
    have h2 := flat_sp h l
    rw [List.flatMap_cons, List.length_append, List.length_cons, List.countP_cons]; omega
theorem ofS1 {s : String} {c : Nat} (h : Str.ofString s = ⟨#[c]⟩) (x z : Str) : tl (Txt.replace x (Str.ofString s) z) = (tl x).flatMap fun d => if d = c then tl z else [d] := by
  rw [h, rep_one]
theorem spc_cases {P : Nat → Prop} (h1 : P 38) (h2 : P 60) (h3 : P 62) (h4 : P 34) (h5 : P 39) (h : ∀ d, d ≠ 38 → d ≠ 60 → d ≠ 62 → d ≠ 34 → d ≠ 39 → P d) (d : Nat) : P d := by
  by_cases e1 : d = 38
  · subst e1; exact h1
  by_cases e2 : d = 60
  · subst e2; exact h2
  by_cases e3 : d = 62
  · subst e3; exact h3
  by_cases e4 : d = 34
  · subst e4; exact h4
  by_cases e5 : d = 39
  · subst e5; exact h5
  exact h d e1 e2 e3 e4 e5
theorem e38 : Str.ofString "&" = ⟨#[38]⟩ := by decide +kernel
theorem e60 : Str.ofString "<" = ⟨#[60]⟩ := by decide +kernel
theorem e62 : Str.ofString ">" = ⟨#[62]⟩ := by decide +kernel
theorem e34 : Str.ofString "\"" = ⟨#[34]⟩ := by decide +kernel
theorem e39 : Str.ofString "'" = ⟨#[39]⟩ := by decide +kernel
theorem rep1_len (x : Str) : (Txt.replace x (Str.ofString "&") (Str.ofString "&amp;")).length ≤ x.length + 5 * sp x := by
  rw [len_tl, ofS1 e38, len_tl x]
  refine flat_sp (spc_cases ?_ ?_ ?_ ?_ ?_ fun d h1 h2 h3 h4 h5 => ?_) _
  iterate 5 decide +kernel
  simp [h1]
theorem rep2_len (x : Str) : (Txt.replace (Txt.replace x (Str.ofString "&") (Str.ofString "&amp;")) (Str.ofString "<") (Str.ofString "&lt;")).length ≤ x.length + 5 * sp x := by
  rw [len_tl, ofS1 e60, ofS1 e38, List.flatMap_assoc, len_tl x]
  refine flat_sp (spc_cases ?_ ?_ ?_ ?_ ?_ fun d h1 h2 h3 h4 h5 => ?_) _
  iterate 5 decide +kernel
  simp [h1, h2]
theorem rep3_len (x : Str) : (Txt.replace (Txt.replace (Txt.replace x (Str.ofString "&") (Str.ofString "&amp;")) (Str.ofString "<") (Str.ofString "&lt;")) (Str.ofString ">") (Str.ofString "&gt;")).length ≤ x.length + 5 * sp x := by
  rw [len_tl, ofS1 e62, ofS1 e60, ofS1 e38, List.flatMap_assoc, List.flatMap_assoc, len_tl x]
  refine flat_sp (spc_cases ?_ ?_ ?_ ?_ ?_ fun d h1 h2 h3 h4 h5 => ?_) _
  iterate 5 decide +kernel
  simp [h1, h2, h3]
theorem rep4_len (x : Str) : (Txt.replace (Txt.replace (Txt.replace (Txt.replace x (Str.ofString "&") (Str.ofString "&amp;")) (Str.ofString "<") (Str.ofString "&lt;")) (Str.ofString ">") (Str.ofString "&gt;")) (Str.ofString "\"") (Str.ofString "&quot;")).length ≤ x.length + 5 * sp x := by
  rw [len_tl, ofS1 e34, ofS1 e62, ofS1 e60, ofS1 e38, List.flatMap_assoc, List.flatMap_assoc, List.flatMap_assoc, len_tl x]
  refine flat_sp (spc_cases ?_ ?_ ?_ ?_ ?_ fun d h1 h2 h3 h4 h5 => ?_) _
  iterate 5 decide +kernel
  simp [h1, h2, h3, h4]
theorem esc_ch (b : Bool) (x : Str) : tl (escF b x) = (tl x).flatMap (escCh b) := by
  unfold escF
  cases b
  · show tl (Txt.replace (Txt.replace (Txt.replace x _ _) _ _) _ _) = _
    rw [ofS1 e62, ofS1 e60, ofS1 e38, List.flatMap_assoc, List.flatMap_assoc]
    congr 1
    funext d
    revert d
    refine spc_cases ?_ ?_ ?_ ?_ ?_ fun d h1 h2 h3 h4 h5 => ?_
    iterate 5 decide +kernel
    simp [h1, h2, h3, escCh]
  · show tl (Txt.replace (Txt.replace (Txt.replace (Txt.replace (Txt.replace x _ _) _ _) _ _) _ _) _ _) = _
    rw [ofS1 e39, ofS1 e34, ofS1 e62, ofS1 e60, ofS1 e38, List.flatMap_assoc, List.flatMap_assoc, List.flatMap_assoc, List.flatMap_assoc]
    congr 1
    funext d
    revert d
    refine spc_cases ?_ ?_ ?_ ?_ ?_ fun d h1 h2 h3 h4 h5 => ?_
    iterate 5 decide +kernel
    simp [h1, h2, h3, h4, h5, escCh]
theorem esc_len (b : Bool) (x : Str) : (escF b x).length ≤ x.length + 5 * sp x := by
  rw [len_tl, esc_ch, len_tl x]
  refine flat_sp (spc_cases ?_ ?_ ?_ ?_ ?_ fun d h1 h2 h3 h4 h5 => ?_) _
  iterate 5 (cases b <;> decide +kernel)
  simp [escCh, h1, h2, h3, h4, h5]
theorem esc_sp (b : Bool) (x : Str) : sp (escF b x) = sp x := by
  unfold sp
  rw [esc_ch]
  have h : ∀ d, (escCh b d).countP spc = if spc d = true then 1 else 0 := by
    refine spc_cases ?_ ?_ ?_ ?_ ?_ fun d h1 h2 h3 h4 h5 => ?_
    iterate 5 (cases b <;> decide +kernel)
    simp [escCh, h1, h2, h3, h4, h5, spc]
  generalize tl x = l
  induction l with
  | nil => rfl
  | cons a l ih => rw [List.flatMap_cons, List.countP_append, h, ih, List.countP_cons]; omega

section
variable {w : World} {A : Around} {E : Value → Shared → Prop} {h₀ : Heap} {mg mb : Str → Option Value} {g : Shared} {z z' : PHeap} {L : Addr} {vals : List (Option Value)} {ms : List (Addr × Obj)} {s : Shared} {env : Env}

theorem repStmt {Kr Gs : List Str} {vr : List (Option Value)} {x y r : Str} {t : Tok} {p1 p2 p3 p4 p5 p6 p7 : Pos} {k1 k2 : Nat} {Q : Flow → Shared → Prop} (O : EnvOk env L (Str.ofString "s" :: Kr) Gs)
    (S : St h₀ g z L (Str.ofString "s" :: Kr) (some (.str x t) :: vr) ms s) (ht : 0 < s.toks) (hyr : (y == r) = false) (hx : x.length ≤ 1048576) (hr : r.length ≤ 14)
    (h : ∀ t' s', 0 < s'.toks → St h₀ g z L (Str.ofString "s" :: Kr) (some (.str (Txt.replace x y r) t') :: vr) ms s' → Q .next s') (pl : Sem Bool)
    (he : eval (.Call (.Attribute (.Name (Str.ofString "s") p2) (Str.ofString "replace") p3) [.Constant (.str y) k1 p4, .Constant (.str r) k2 p5] [] p6) env = do
      let ov ← eval (.Name (Str.ofString "s") p2) env
      standAt p3.atName
      let __x ← holding [ov] (getMethod ov (Str.ofString "replace") pl)
      match __x with
        | (f, first) => callWith p6 f first (backTo p6 (starEach [.Constant (.str y) k1 p4, .Constant (.str r) k2 p5] env)) []) :
    wpAny (model P1 w) A (exec (.Assign [.Name (Str.ofString "s") p1] (.Call (.Attribute (.Name (Str.ofString "s") p2) (Str.ofString "replace") p3) [.Constant (.str y) k1 p4, .Constant (.str r) k2 p5] [] p6) p7) env) Q E s := by
  refine wpAny_Assign_Name ?_
  refine MethodCall_ ?_ he
  refine ld0 S O ?_
  refine GM.replace ?_
  refine cwM1 ?_
  refine spliced_more (Constant_str ?_)
  refine spliced_more (Constant_str ?_)
  refine spliced_none ?_
  refine SC.replaceW (Nat.ne_of_gt ht) (Nat.succ_ne_zero _) (Nat.ne_of_lt (Nat.lt_succ_self _)) hyr hx hr fun t' k => ?_
  refine st0 (S.tok k) O ?_
  intro s' h1 h2
  exact h t' s' h1 h2

set_option maxHeartbeats 4000000 in
theorem esc_body {x : Str} {t : Tok} {qv : Value} {b : Bool} {Q : Flow → Shared → Prop} 
   (O : EnvOk env L ["s", "quote"] [])
   (S : St h₀ g z L ["s", "quote"] [some (.str x t), some qv] [] s) (ht : 0 < s.toks) (hx : x.length + 5 * sp x ≤ 1048576)
   (hb : ∀ (A : Around) (E : Value → Shared → Prop) (Q : Bool → Shared → Prop) (s : Shared) (vals : List (Option Value)), 0 < s.toks → St h₀ g z L ["s", "quote"] vals [] s → (∀ s', 0 < s'.toks → St h₀ g z L ["s", "quote"] vals [] s' → Q b s') → wpAny (model P1 w) A (truthy qv) Q E s)
   (hQ : ∀ t' s', Keeps g s' → Q (.ret (.str (escF b x) t')) s') :
   wpAny (model P1 w) A (execs (bodyOf P1 1) env) Q E s := by
  have l1 := rep1_len x
  have l2 := rep2_len x
  have l3 := rep3_len x
  have l4 := rep4_len x
  refine exC (repStmt O S ht (by decide +kernel) (by omega) (by decide) ?_ _ rfl)
  clear S; intro t1 s ht S
  refine nqN (exC (repStmt O S ht (by decide +kernel) (by omega) (by decide) ?_ _ rfl))
  clear S; intro t1 s ht S
  refine nqN (exC (repStmt O S ht (by decide +kernel) (by omega) (by decide) ?_ _ rfl))
  clear S; intro t1 s ht S
  refine nqN ?_
  refine exC ?_
  walk_at "zz"
  walk_at "zz"
  refine ld1 S O ?_
  refine hb _ _ _ _ _ ht S ?_
  clear S; intro s ht S
  refine iteB ?_ ?_
  · intro e
    refine exC (repStmt O S ht (by decide +kernel) (by omega) (by decide) ?_ _ rfl)
    clear S; intro t1 s ht S
    refine nqN (exC (repStmt O S ht (by decide +kernel) (by omega) (by decide) ?_ _ rfl))
    clear S; intro t1 s ht S
    repeat walk_at "z"
    with_reducible rename St _ _ _ _ _ _ _ _ => S
    subst e
    exact hQ _ _ S.keeps
  · intro e
    repeat walk_at "z"
    with_reducible rename St _ _ _ _ _ _ _ _ => S
    subst e
    exact hQ _ _ S.keeps
theorem sc1 : ScopeOk (scopeOf P1 1) ["s", "quote"] [] := by
  refine ⟨?_, ?_, ?_, ?_, ?_, ?_, ?_, ?_, ?_⟩ <;> decide +kernel
/-- the second argument's truth -/
def Says (h₀ : Heap) (w : World) (qv : Value) (b : Bool) : Prop := ∀ (A : Around) (E : Value → Shared → Prop) (Q : Bool → Shared → Prop) (g s : Shared) (z : PHeap) (L : Addr) (vals : List (Option Value)), 0 < s.toks → St h₀ g z L ["s", "quote"] vals [] s → (∀ s', 0 < s'.toks → St h₀ g z L ["s", "quote"] vals [] s' → Q b s') → wpAny (model P1 w) A (truthy qv) Q E s
theorem esc_spec (G : G1 h₀ mg mb) {x : Str} {t : Tok} {qv : Value} {b : Bool} (hd : A.depth ≤ 900) (h0 : Le h₀.get? s.heap.get?) (hx : x.length + 5 * sp x ≤ 1048576) (hb : Says h₀ w qv b) :
    codeAny (model P1 w) A (.call (.ref 22) ⟨[.str x t, qv], []⟩) (fun r s' => ∃ v, r = .ok (.ret v) ∧ Keeps s s' ∧ ∃ t', v = .str (escF b x) t') s := by
  obtain ⟨oc, od, osl, name, qual, kV, doc, pm, an, cdv, ct, ho, hcd⟩ := G.f22
  refine enterFn (names := ["s", "quote"]) (rest := []) (vs := [.str x t, qv]) ho hcd G.lim h0 (by omega) (BindsTo.of_defaults rfl (h0 _ _ G.d15) rfl rfl rfl) rfl sc1 rfl rfl ?_
  intro s' env E' O ht S
  refine esc_body (b := b) O S (ht (Nat.succ_pos _)) hx (fun A E Q s vals ht S h => hb A E Q _ s _ _ vals ht S h) ?_
  intro t' s' k
  exact ⟨k, t', rfl⟩
theorem esc_spec1 (G : G1 h₀ mg mb) {x : Str} {t : Tok} (hd : A.depth ≤ 900) (h0 : Le h₀.get? s.heap.get?) (hx : x.length + 5 * sp x ≤ 1048576) :
    codeAny (model P1 w) A (.call (.ref 22) ⟨[.str x t], []⟩) (fun r s' => ∃ v, r = .ok (.ret v) ∧ Keeps s s' ∧ ∃ t', v = .str (escF true x) t') s := by
  obtain ⟨oc, od, osl, name, qual, kV, doc, pm, an, cdv, ct, ho, hcd⟩ := G.f22
  refine enterFn (names := ["s", "quote"]) (rest := []) (vs := [.str x t, .bool true]) ho hcd G.lim h0 (by omega) (BindsTo.of_defaults rfl (h0 _ _ G.d15) rfl rfl rfl) rfl sc1 rfl rfl ?_
  intro s' env E' O ht S
  refine esc_body (b := true) O S (ht (Nat.succ_pos _)) hx (fun A E Q s vals ht S h => wpAny_truthy_bool (h _ ht S)) ?_
  intro t' s' k
  exact ⟨k, t', rfl⟩
theorem says_bool {b : Bool} : Says h₀ w (.bool b) b := fun _ _ _ _ _ _ _ _ ht S h => wpAny_truthy_bool (h _ ht S)
theorem says_none : Says h₀ w .none false := fun _ _ _ _ _ _ _ _ ht S h => truthy_none (h _ ht S)
theorem says_int {n : Int} {t : Tok} : Says h₀ w (.int n t) (n != 0) := fun _ _ _ _ _ _ _ _ ht S h => truthy_int (h _ ht S)
theorem says_str {x : Str} {t : Tok} (hx : x.length ≤ 2 ^ 40) : Says h₀ w (.str x t) ((x.length : Int) != 0) := fun _ _ _ _ _ _ _ _ ht S h => truthS S hx fun s' h1 h2 => h s' h1 h2
end
end

section

def piecesL : List Str := ["\"", "&", "'", "<", "x", ">", "&amp;", "&lt", "&#x27;", "</a>", "\" q='", "'>", "<f p=\"", "amp;", "€", "é\n", ""]
theorem pieces_len : ∀ x ∈ piecesL, x.length ≤ 6 ∧ sp x ≤ 2 ∧ PyData.strOk x = true := by decide +kernel
theorem strOk_append {x y : Str} (h1 : PyData.strOk x = true) (h2 : PyData.strOk y = true) : PyData.strOk (x ++ y) = true := by
  unfold PyData.strOk at h1 h2 ⊢
  rw [← Array.all_toList] at h1 h2 ⊢
  show (tl (x ++ y)).all _ = true
  rw [tl_append, List.all_append, Bool.and_eq_true]
  exact ⟨h1, h2⟩
theorem sp_append (x y : Str) : sp (x ++ y) = sp x + sp y := by unfold sp; rw [tl_append, List.countP_append]

/-- a filling's size -/
def Fill (x : Str) : Prop := (x.length ≤ 12 ∧ PyData.strOk x = true) ∧ sp x ≤ 4

section
variable {w : World} {A : Around} {E : Value → Shared → Prop} {h₀ : Heap} {mg mb : Str → Option Value} {g : Shared} {z z' : PHeap} {L : Addr} {vals : List (Option Value)} {ms : List (Addr × Obj)} {s : Shared} {env : Env}

set_option maxHeartbeats 8000000 in
theorem fill_body {n : Int} {t : Tok} {Q : Flow → Shared → Prop} (hh : A.handled = none)
   (O : EnvOk env L ["number", "pieces"] [])
   (S : St h₀ g z L ["number", "pieces"] [some (.int n t), none] [] s)
   (hQ : ∀ x t' s', Keeps g s' → Fill x → Q (.ret (.str x t')) s') :
   wpAny (model P1 w) A (execs (bodyOf P1 3) env) Q E s := by
  refine exC ?_
  repeat walk_at "zz"
  with_reducible rename St _ _ _ _ _ _ _ _ => S
  refine newT S ?hsz ?_
  case hsz => exact Nat.le_of_ble_eq_true rfl
  clear S; intro T s S
  obtain ⟨z1, le1, hzT, _, S⟩ := S.freeze
  obtain ⟨svs, hsv, hzT⟩ : ∃ svs, StrsAre svs piecesL ∧ z1 T = some (tupOf svs.toArray) :=
    ⟨_, .cons _ _ (.cons _ _ (.cons _ _ (.cons _ _ (.cons _ _ (.cons _ _ (.cons _ _ (.cons _ _ (.cons _ _ (.cons _ _ (.cons _ _ (.cons _ _ (.cons _ _ (.cons _ _ (.cons _ _ (.cons _ _ (.cons _ _ .nil)))))))))))))))), hzT⟩
  repeat walk_at "zz"
  refine exC ?_
  repeat walk_at "zz"
  with_reducible rename St _ _ _ _ _ _ _ _ => S
  have hm8 := fmod_pos (a := n) (b := 17) (by decide)
  obtain ⟨x8, tx8, hx8, hy8⟩ := strs_get hsv (i := ((n).fmod 17).toNat) (by show _ < 17; omega)
  have hl8 := pieces_len x8 (List.mem_of_getElem? hy8)
  refine itemT (isT S hzT) hm8.1 (by omega) (by simpa using hx8) ?_
  repeat walk_at "zz"
  with_reducible rename St _ _ _ _ _ _ _ _ => S
  refine divI S (by decide) (PyProof.noPylong_small (by decide)) ?_
  clear S; intro q3 s S
  repeat walk_at "zz"
  with_reducible rename St _ _ _ _ _ _ _ _ => S
  have hm9 := fmod_pos (a := n.fdiv 17 + 5) (b := 17) (by decide)
  obtain ⟨x9, tx9, hx9, hy9⟩ := strs_get hsv (i := ((n.fdiv 17 + 5).fmod 17).toNat) (by show _ < 17; omega)
  have hl9 := pieces_len x9 (List.mem_of_getElem? hy9)
  refine itemT (isT S hzT) hm9.1 (by omega) (by simpa using hx9) ?_
  repeat walk_at "zz"
  with_reducible rename St _ _ _ _ _ _ _ _ => S
  refine addS S (by rw [sizeLine_eq]; omega) ?_
  clear S; intro t6 s S
  repeat walk_at "zz"
  with_reducible rename St _ _ _ _ _ _ _ _ => S
  exact hQ _ _ _ S.keeps ⟨⟨by rw [Str.length_append]; omega, strOk_append hl8.2.2 hl9.2.2⟩, by rw [sp_append]; omega⟩
theorem sc3 : ScopeOk (scopeOf P1 3) ["number", "pieces"] [] := by
  refine ⟨?_, ?_, ?_, ?_, ?_, ?_, ?_, ?_, ?_⟩ <;> decide +kernel
theorem fill_spec (G : G1 h₀ mg mb) {n : Int} {t : Tok} (hh : A.handled = none) (hd : A.depth ≤ 900) (h0 : Le h₀.get? s.heap.get?) :
    codeAny (model P1 w) A (.call (.ref 29) ⟨[.int n t], []⟩) (fun r s' => ∃ v, r = .ok (.ret v) ∧ Keeps s s' ∧ ∃ x t', v = .str x t' ∧ Fill x) s := by
  obtain ⟨oc, od, osl, name, qual, kV, doc, pm, an, cdv, ct, ho, hcd⟩ := G.f29
  refine enterFn (names := ["number"]) (rest := ["pieces"]) (vs := [.int n t]) ho hcd G.lim h0 (by omega) (BindsTo.of_eq rfl) rfl sc3 rfl rfl ?_
  intro s' env E' O _ S
  have S : St h₀ s s.heap.get? s.heap.objs.size ["number", "pieces"] [some (.int n t), none] [] s' := S
  have hh' : (A.deeper env).handled = none := hh
  with_reducible refine fill_body hh' O S ?_
  intro x t' s' k h
  exact ⟨k, x, t', rfl, h⟩
end
end

section

/-- a page's tree: elements (a, f) and rows (last, more) -/
inductive N where
  | a (i s : Str) (r : N)
  | f (i : N) (s : Str) (r : N)
  | last (x : Str)
  | more (x : Str) (k r : N)
namespace N
def isE : N → Bool
  | .a .. => true
  | .f .. => true
  | _ => false
/-- well made, and every text a filling -/
def Ok : N → Prop
  | .a i s r => Fill i ∧ Fill s ∧ r.isE = false ∧ r.Ok
  | .f i s r => i.isE = true ∧ i.Ok ∧ Fill s ∧ r.isE = false ∧ r.Ok
  | .last x => Fill x
  | .more x k r => Fill x ∧ k.isE = true ∧ k.Ok ∧ r.isE = false ∧ r.Ok
def page : N → Str
  | .a i s r => Str.ofString "<a p=\"" ++ escF true i ++ Str.ofString "\" q='" ++ escF true s ++ Str.ofString "'>" ++ r.page ++ Str.ofString "</a>"
  | .f i s r => Str.ofString "<f p=\"" ++ escF true i.page ++ Str.ofString "\" q='" ++ escF true s ++ Str.ofString "'>" ++ r.page ++ Str.ofString "</f>"
  | .last x => escF false x
  | .more x k r => escF false x ++ k.page ++ r.page
def cnt : N → Nat
  | .a _ _ r => 1 + r.cnt
  | .f i _ r => 1 + i.cnt + r.cnt
  | .last _ => 0
  | .more _ k r => k.cnt + r.cnt
def dep : N → Nat
  | .a _ _ r => r.dep
  | .f i _ r => max (i.dep + 1) r.dep
  | .last _ => 0
  | .more _ k r => max (k.dep + 1) r.dep
def Rep (z : PHeap) : N → List Value → Prop
  | .a i s r, vs => ∃ d t1 t2 b n n' rs, vs = [.ref d] ∧ z d = some (listOf #[.str i t1, .str s t2, .ref b] n) ∧ z b = some (listOf rs.toArray n') ∧ r.Rep z rs
  | .f i s r, vs => ∃ d e t2 b n n' rs, vs = [.ref d] ∧ z d = some (listOf #[.ref e, .str s t2, .ref b] n) ∧ i.Rep z [.ref e] ∧ z b = some (listOf rs.toArray n') ∧ r.Rep z rs
  | .last x, vs => ∃ t, vs = [.str x t]
  | .more x k r, vs => ∃ t e rs, vs = .str x t :: .ref e :: rs ∧ k.Rep z [.ref e] ∧ r.Rep z rs
theorem Rep.mono {z z' : PHeap} (le : Le z z') : ∀ {n : N} {vs : List Value}, n.Rep z vs → n.Rep z' vs
  | .a _ _ _, _, ⟨d, t1, t2, b, n, n', rs, h1, h2, h3, h4⟩ => ⟨d, t1, t2, b, n, n', rs, h1, le _ _ h2, le _ _ h3, Rep.mono le h4⟩
  | .f _ _ _, _, ⟨d, e, t2, b, n, n', rs, h1, h2, h3, h4, h5⟩ => ⟨d, e, t2, b, n, n', rs, h1, le _ _ h2, Rep.mono le h3, le _ _ h4, Rep.mono le h5⟩
  | .last _, _, h => h
  | .more _ _ _, _, ⟨t, e, rs, h1, h2, h3⟩ => ⟨t, e, rs, h1, Rep.mono le h2, Rep.mono le h3⟩

theorem fill_esc (b : Bool) {x : Str} (h : Fill x) : (escF b x).length ≤ 32 ∧ sp (escF b x) ≤ 4 := by
  have h1 := esc_len b x
  have h2 := esc_sp b x
  unfold Fill at h
  omega
/-- the special signs of a page -/
theorem sp_page : ∀ (n : N), n.Ok → (n.isE = true → sp n.page + 4 ≤ 24 * n.cnt) ∧ (n.isE = false → sp n.page ≤ 4 + 24 * n.cnt)
  | .a i s r, h => by
    obtain ⟨h1, h2, h3, h4⟩ := h
    have ih := (sp_page r h4).2 h3
    have e1 := (fill_esc true h1).2
    have e2 := (fill_esc true h2).2
    refine ⟨fun _ => ?_, fun q => by simp [isE] at q⟩
    simp only [page, cnt, sp_append]
    have k1 : sp (Str.ofString "<a p=\"") = 2 := by decide +kernel
    have k2 : sp (Str.ofString "\" q='") = 2 := by decide +kernel
    have k3 : sp (Str.ofString "'>") = 2 := by decide +kernel
    have k4 : sp (Str.ofString "</a>") = 2 := by decide +kernel
    omega
  | .f i s r, h => by
    obtain ⟨h0, h1, h2, h3, h4⟩ := h
    have ih := (sp_page r h4).2 h3
    have ih1 := (sp_page i h1).1 h0
    have e1 := esc_sp true i.page
    have e2 := (fill_esc true h2).2
    refine ⟨fun _ => ?_, fun q => by simp [isE] at q⟩
    simp only [page, cnt, sp_append]
    have k1 : sp (Str.ofString "<f p=\"") = 2 := by decide +kernel
    have k2 : sp (Str.ofString "\" q='") = 2 := by decide +kernel
    have k3 : sp (Str.ofString "'>") = 2 := by decide +kernel
    have k4 : sp (Str.ofString "</f>") = 2 := by decide +kernel
    omega
  | .last x, h => by
    refine ⟨fun q => by simp [isE] at q, fun _ => ?_⟩
    have := (fill_esc false (show Fill x from h)).2
    simp only [page, cnt]; omega
  | .more x k r, h => by
    obtain ⟨h0, h1, h2, h3, h4⟩ := h
    have ih := (sp_page r h4).2 h3
    have ih1 := (sp_page k h2).1 h1
    have e1 := (fill_esc false h0).2
    refine ⟨fun q => by simp [isE] at q, fun _ => ?_⟩
    simp only [page, cnt, sp_append]
    omega

theorem mul_le {a b c : Nat} (h : a ≤ b) : (145 + 120 * a) * c ≤ (145 + 120 * b) * c := Nat.mul_le_mul_right _ (by omega)
/-- the length of a page -/
theorem len_page : ∀ (n : N) (d : Nat), n.dep ≤ d → n.Ok → (n.isE = true → n.page.length + 32 ≤ (145 + 120 * d) * n.cnt) ∧ (n.isE = false → n.page.length ≤ 32 + (145 + 120 * d) * n.cnt)
  | .a i s r, d, hd, h => by
    obtain ⟨h1, h2, h3, h4⟩ := h
    have ih := (len_page r d hd h4).2 h3
    have e1 := (fill_esc true h1).1
    have e2 := (fill_esc true h2).1
    refine ⟨fun _ => ?_, fun q => by simp [isE] at q⟩
    simp only [page, cnt, Str.length_append, Nat.mul_add, Nat.mul_one]
    have k1 : (Str.ofString "<a p=\"").length = 6 := by decide +kernel
    have k2 : (Str.ofString "\" q='").length = 5 := by decide +kernel
    have k3 : (Str.ofString "'>").length = 2 := by decide +kernel
    have k4 : (Str.ofString "</a>").length = 4 := by decide +kernel
    omega
  | .f i s r, d, hd, h => by
    obtain ⟨h0, h1, h2, h3, h4⟩ := h
    have hd1 : i.dep + 1 ≤ d := Nat.le_trans (Nat.le_max_left _ _) hd
    have hd2 : r.dep ≤ d := Nat.le_trans (Nat.le_max_right _ _) hd
    obtain ⟨d, rfl⟩ : ∃ e, d = e + 1 := ⟨d - 1, by omega⟩
    have ih := (len_page r _ hd2 h4).2 h3
    have ih1 := (len_page i d (by omega) h1).1 h0
    have is1 := (sp_page i h1).1 h0
    have e1 := esc_len true i.page
    have e2 := (fill_esc true h2).1
    refine ⟨fun _ => ?_, fun q => by simp [isE] at q⟩
    simp only [page, cnt, Str.length_append, Nat.mul_add, Nat.mul_one]
    have k1 : (Str.ofString "<f p=\"").length = 6 := by decide +kernel
    have k2 : (Str.ofString "\" q='").length = 5 := by decide +kernel
    have k3 : (Str.ofString "'>").length = 2 := by decide +kernel
    have k4 : (Str.ofString "</f>").length = 4 := by decide +kernel
    have k5 : (145 + (120 * d + 120)) * i.cnt = (145 + 120 * d) * i.cnt + 120 * i.cnt := by rw [← Nat.add_assoc, Nat.add_mul]
    have k6 : 120 * (d + 1) = 120 * d + 120 := by omega
    rw [k6] at ih
    omega
  | .last x, d, hd, h => by
    refine ⟨fun q => by simp [isE] at q, fun _ => ?_⟩
    have := (fill_esc false (show Fill x from h)).1
    simp only [page, cnt]; omega
  | .more x k r, d, hd, h => by
    obtain ⟨h0, h1, h2, h3, h4⟩ := h
    have hd1 : k.dep + 1 ≤ d := Nat.le_trans (Nat.le_max_left _ _) hd
    have hd2 : r.dep ≤ d := Nat.le_trans (Nat.le_max_right _ _) hd
    have ih := (len_page r d hd2 h4).2 h3
    have ih1 := (len_page k d (by omega) h2).1 h1
    have e1 := (fill_esc false h0).1
    refine ⟨fun q => by simp [isE] at q, fun _ => ?_⟩
    simp only [page, cnt, Str.length_append, Nat.mul_add]
    omega
end N
end

section

/-- a row's items -/
def itemsOf : N → List (Str ⊕ N)
  | .last x => [.inl x]
  | .more x k r => .inl x :: .inr k :: itemsOf r
  | _ => []
def itemPage : Str ⊕ N → Str
  | .inl x => escF false x
  | .inr k => k.page
def ItemAt (z : PHeap) (v : Value) : Str ⊕ N → Prop
  | .inl x => ∃ t, v = .str x t
  | .inr k => ∃ e, v = .ref e ∧ k.Rep z [.ref e]
def ItemOk (r : N) : Str ⊕ N → Prop
  | .inl x => Fill x
  | .inr k => k.isE = true ∧ k.Ok ∧ k.dep + 1 ≤ r.dep ∧ k.cnt ≤ r.cnt
theorem page_items : ∀ {r : N}, r.isE = false → r.Ok → tl r.page = (itemsOf r).flatMap fun it => tl (itemPage it)
  | .last x, _, _ => by simp [itemsOf, itemPage, N.page]
  | .more x k r, _, h => by
    obtain ⟨h0, h1, h2, h3, h4⟩ := h
    have ih := page_items h3 h4
    simp only [N.page, itemsOf, tl_append, List.flatMap_cons, ih, itemPage, List.append_assoc]
theorem items_ok : ∀ {r : N}, r.isE = false → r.Ok → ∀ it ∈ itemsOf r, ItemOk r it
  | .last x, _, h, it, hm => by
    simp [itemsOf] at hm; subst hm; exact h
  | .more x k r, _, h, it, hm => by
    obtain ⟨h0, h1, h2, h3, h4⟩ := h
    have ih := items_ok h3 h4
    simp only [itemsOf, List.mem_cons] at hm
    rcases hm with rfl | rfl | hm
    · exact h0
    · exact ⟨h1, h2, Nat.le_max_left _ _, Nat.le_add_right _ _⟩
    · have := ih it hm
      cases it with
      | inl y => exact this
      | inr j => exact ⟨this.1, this.2.1, Nat.le_trans this.2.2.1 (Nat.le_max_right _ _), Nat.le_trans this.2.2.2 (Nat.le_add_left _ _)⟩
theorem items_at {z : PHeap} : ∀ {r : N} {rs : List Value}, r.isE = false → r.Ok → r.Rep z rs → rs.length = (itemsOf r).length ∧ ∀ (i : Nat) (v : Value), rs[i]? = some v → ∃ it : Str ⊕ N, (itemsOf r)[i]? = some it ∧ ItemAt z v it
  | .last x, rs, _, _, h => by
    obtain ⟨t, rfl⟩ := h
    refine ⟨rfl, fun i v hv => ?_⟩
    cases i with
    | zero => simp at hv; subst hv; exact ⟨_, rfl, t, rfl⟩
    | succ i => simp at hv
  | .more x k r, rs, _, ho, h => by
    obtain ⟨t, e, rs', rfl, h1, h2⟩ := h
    obtain ⟨_, _, _, h3, h4⟩ := ho
    obtain ⟨ih1, ih2⟩ := items_at h3 h4 h2
    refine ⟨by simp [itemsOf, ih1], fun i v hv => ?_⟩
    match i with
    | 0 => simp at hv; subst hv; exact ⟨_, rfl, t, rfl⟩
    | 1 => simp at hv; subst hv; exact ⟨_, rfl, e, rfl, h1⟩
    | i + 2 => exact ih2 i v (by simpa using hv)
theorem flat_take_le {α : Type} (f : α → List Nat) : ∀ (l : List α) (i : Nat), ((l.take i).flatMap f).length ≤ (l.flatMap f).length
  | [], i => by simp
  | a :: l, 0 => by simp
  | a :: l, i + 1 => by
    have := flat_take_le f l i
    rw [List.take_succ_cons, List.flatMap_cons, List.flatMap_cons, List.length_append, List.length_append]; omega

section
variable {w : World} {A : Around} {E : Value → Shared → Prop} {h₀ : Heap} {mg mb : Str → Option Value} {g : Shared} {z z' : PHeap} {L : Addr} {K Gs : List Str} {vals : List (Option Value)} {ms : List (Addr × Obj)} {s : Shared} {env : Env}
theorem el_list {z : PHeap} {k : N} {e : Addr} (h : k.isE = true) (hr : k.Rep z [.ref e]) : ∃ its n, z e = some (listOf its n) := by
  cases k with
  | a i s r => obtain ⟨d, t1, t2, b, n, n', rs, e1, e2, _⟩ := hr; cases e1; exact ⟨_, _, e2⟩
  | f i s r => obtain ⟨d, e', t2, b, n, n', rs, e1, e2, _⟩ := hr; cases e1; exact ⟨_, _, e2⟩
  | last x => simp [N.isE] at h
  | more x k r => simp [N.isE] at h
theorem pick4 {h₀ : Heap} {w : World} (t1 t2 : Tok) {k : Int} (h0 : 0 ≤ k) (h1 : k < 4) : ∃ qv, #[Value.bool false, .int 0 t1, .str (Str.ofString "") t2, .none][k.toNat]? = some qv ∧ Says h₀ w qv false := by
  have : k = 0 ∨ k = 1 ∨ k = 2 ∨ k = 3 := by omega
  rcases this with rfl | rfl | rfl | rfl
  · exact ⟨_, rfl, says_bool⟩
  · exact ⟨_, rfl, says_int⟩
  · exact ⟨_, rfl, says_str (by decide)⟩
  · exact ⟨_, rfl, says_none⟩
theorem pick3 {h₀ : Heap} {w : World} (t1 t2 : Tok) {k : Int} (h0 : 0 ≤ k) (h1 : k < 3) : ∃ qv, #[Value.bool true, .int 1 t1, .str (Str.ofString "no") t2][k.toNat]? = some qv ∧ Says h₀ w qv true := by
  have : k = 0 ∨ k = 1 ∨ k = 2 := by omega
  rcases this with rfl | rfl | rfl
  · exact ⟨_, rfl, says_bool⟩
  · exact ⟨_, rfl, says_int⟩
  · exact ⟨_, rfl, says_str (by decide)⟩

def PageSpec (w : World) (h₀ : Heap) (m : Nat) : Prop := ∀ (A : Around) (s : Shared) (d : Addr) (n : N), A.handled = none → A.depth + m ≤ 800 → Le h₀.get? s.heap.get? → n.isE = true → n.Ok → n.dep < m → n.dep ≤ 6 → n.cnt ≤ 729 → n.Rep s.heap.get? [.ref d] →
  codeAny (model P1 w) A (.call (.ref 43) ⟨[.ref d], []⟩) (fun r s' => ∃ v, r = .ok (.ret v) ∧ Keeps s s' ∧ ∃ t, v = .str n.page t) s

abbrev K5 : List Str := ["node", "inner", "name", "page", "kid"]
abbrev Gs5 : List Str := ["isinstance", "str", "_law_page", "escape", "len"]

set_option maxHeartbeats 8000000 in
theorem page_loop {m : Nat} (G : G1 h₀ mg mb) (IH : PageSpec w h₀ m) (hh : A.handled = none) (hd : A.depth + m ≤ 800) (O : EnvOk env L K5 Gs5) {d b : Addr} {e1 e2 : Value} {n n' : Nat} {rs : List Value} {iv : Value} {nm p0 : Str} {tn tp : Tok} {r : N} {x : Option Value} {Q : Flow → Shared → Prop}
    (hz : z d = some (listOf #[e1, e2, .ref b] n)) (hzb : z b = some (listOf rs.toArray n')) (hr : r.isE = false) (hk : r.Ok) (hrep : r.Rep z rs) (hdep : r.dep ≤ m) (hdep6 : r.dep ≤ 6) (hcnt : r.cnt ≤ 729) (hnm : nm.length = 1) (hp : p0.length ≤ 800000)
    (S : St h₀ g z L K5 [some (.ref d), some iv, some (.str nm tn), some (.str p0 tp), x] [] s)
    (h : ∀ t' s', Keeps g s' → Q (.ret (.str (p0 ++ r.page ++ Str.ofString "</" ++ nm ++ Str.ofString ">") t')) s') :
    wpAny (model P1 w) A (execs ((bodyOf P1 5).drop 4) env) Q E s := by
  have hlp : (tl r.page).length ≤ 700000 := by
    have := (N.len_page r 6 hdep6 hk).2 hr
    rw [← len_tl]; omega
  obtain ⟨hl, hat⟩ := items_at hr hk hrep
  have hio := items_ok hr hk
  have hpi := page_items hr hk
  refine exC ?_
  repeat walk_at "zz"
  with_reducible rename St _ _ _ _ _ _ _ _ => S
  refine itemZ (isL S hz) (by omega) (by omega) rfl ?_
  refine forL S hh hzb (fun i z' vals' ms' => ∃ p t y, vals' = [some (.ref d), some iv, some (.str nm tn), some (.str p t), y] ∧ ms' = [] ∧ tl p = tl p0 ++ ((itemsOf r).take i).flatMap fun it => tl (itemPage it)) ⟨p0, tp, _, rfl, rfl, by simp⟩ ?_ ?_
  · clear S
    intro E' i v z₁ vals' I o ms' s hv le hJ S
    obtain ⟨p, t, y, rfl, rfl, hpl⟩ := hJ
    obtain ⟨it, hit, hia⟩ := hat i v hv
    have hok := hio it (List.mem_of_getElem? hit)
    have hplen : p.length ≤ 1500000 := by
      have := flat_take_le (fun it => tl (itemPage it)) (itemsOf r) i
      rw [← hpi] at this
      rw [len_tl, hpl, List.length_append]
      rw [len_tl] at hp
      omega
    have hstep : ∀ q : Str, tl q = tl (itemPage it) → tl (p ++ q) = tl p0 ++ ((itemsOf r).take (i + 1)).flatMap fun it => tl (itemPage it) := by
      intro q hq
      rw [tl_append, hpl, List.take_add_one, hit, hq]
      simp
    refine wpAny_assign_Name ?_
    repeat walk_at "zz"
    refine exC ?_
    cases it with
    | inl x =>
      obtain ⟨tx, rfl⟩ := hia
      repeat walk_at "zz"
      refine exC ?_
      repeat walk_at "zz"
      with_reducible rename St _ _ _ _ _ _ _ _ => S
      refine ldG S O (by decide) G.gn G.g22 ?_
      obtain ⟨oc', od, osl, name, qual, kV, doc, pm, an, cdv, ct, ho, hcd⟩ := G.f22
      refine callWith_fn ho rfl ?_ rfl
      repeat walk_at "zz"
      with_reducible rename St _ _ _ _ _ _ _ _ => S
      refine newT S ?hsz ?_
      case hsz => exact Nat.le_of_ble_eq_true rfl
      clear S; intro T s S
      obtain ⟨z₂, le₂, hzT, _, S⟩ := S.freeze
      repeat walk_at "zz"
      with_reducible rename St _ _ _ _ _ _ _ _ => S
      have hx12 : x.length ≤ 12 := hok.1.1
      have hx4 : sp x ≤ 4 := hok.2
      refine lenS S (by omega) ?_
      clear S; intro t5 s S
      repeat walk_at "zz"
      with_reducible rename St _ _ _ _ _ _ _ _ => S
      have hm := fmod_pos (a := (x.length : Int)) (b := 4) (by decide)
      obtain ⟨qv, hqv, hsay⟩ : ∃ qv, _ ∧ Says h₀ w qv false := pick4 _ _ hm.1 hm.2
      refine itemT (isT S hzT) hm.1 (by omega) hqv ?_
      repeat walk_at "zz"
      with_reducible rename St _ _ _ _ _ _ _ _ => S
      refine ⟨S.base, useSpec S (esc_spec G (by omega) S.base (by omega) hsay) ?_⟩
      intro v z₃ s₂ le₃ len₃ S₂ hv₂
      obtain ⟨tw, rfl⟩ := hv₂
      clear S
      repeat walk_at "zz"
      with_reducible rename St _ _ _ _ _ _ _ _ => S
      refine addS S (by have := (N.fill_esc false hok).1; rw [sizeLine_eq]; omega) ?_
      clear S; intro t7 s S
      repeat walk_at "zz"
      with_reducible rename St _ _ _ _ _ _ _ _ => S
      exact ⟨_, _, _, le₂.trans le₃, ⟨_, _, _, rfl, rfl, hstep _ rfl⟩, S⟩
    | inr k =>
      obtain ⟨e, rfl, hke⟩ := hia
      obtain ⟨k1, k2, k3, k4⟩ := hok
      obtain ⟨its, n3, hze⟩ := el_list k1 hke
      repeat walk_at "zz"
      with_reducible rename St _ _ _ _ _ _ _ _ => S
      refine isiL S (le _ _ hze) ?_
      clear S; intro s S
      repeat walk_at "z"
      with_reducible rename St _ _ _ _ _ _ _ _ => S
      refine ldG S O (by decide) G.gn G.g43 ?_
      obtain ⟨oc', od, osl, name, qual, kV, doc, pm, an, cdv, ct, ho, hcd⟩ := G.f43
      refine callWith_fn ho rfl ?_ rfl
      repeat walk_at "zz"
      with_reducible rename St _ _ _ _ _ _ _ _ => S
      have hlk : k.page.length ≤ 700000 := by
        have := (N.len_page k 6 (by omega) k2).1 k1
        omega
      refine ⟨S.base, useSpec S (IH A _ e k hh (by omega) S.base k1 k2 (by omega) (by omega) (by omega) (hke.mono (le.trans S.keep))) ?_⟩
      intro v z₃ s₂ le₃ len₃ S₂ hv₂
      obtain ⟨tw, rfl⟩ := hv₂
      clear S
      repeat walk_at "zz"
      with_reducible rename St _ _ _ _ _ _ _ _ => S
      refine addS S (by rw [sizeLine_eq]; omega) ?_
      clear S; intro t7 s S
      repeat walk_at "zz"
      with_reducible rename St _ _ _ _ _ _ _ _ => S
      exact ⟨_, _, _, le₃, ⟨_, _, _, rfl, rfl, hstep _ rfl⟩, S⟩
  · clear S
    intro z₁ vals' ms' s le hJ S
    obtain ⟨p, t, y, rfl, rfl, hpl⟩ := hJ
    rw [hl, List.take_length, ← hpi, ← tl_append] at hpl
    have hpl := tl_inj hpl
    subst hpl
    have hlen : (p0 ++ r.page).length ≤ 1500000 := by rw [Str.length_append]; rw [← len_tl] at hlp; omega
    repeat walk_at "z"
    with_reducible rename St _ _ _ _ _ _ _ _ => S
    refine addS S (by rw [sizeLine_eq, show (Str.ofString "</").length = 2 from by decide +kernel]; omega) ?_
    clear S; intro t7 s S
    repeat walk_at "zz"
    with_reducible rename St _ _ _ _ _ _ _ _ => S
    refine addS S (by rw [sizeLine_eq, Str.length_append, show (Str.ofString "</").length = 2 from by decide +kernel]; omega) ?_
    clear S; intro t8 s S
    repeat walk_at "zz"
    with_reducible rename St _ _ _ _ _ _ _ _ => S
    refine addS S (by rw [sizeLine_eq, Str.length_append, Str.length_append, show (Str.ofString "</").length = 2 from by decide +kernel, show (Str.ofString ">").length = 1 from by decide +kernel]; omega) ?_
    clear S; intro t9 s S
    repeat walk_at "zz"
    with_reducible rename St _ _ _ _ _ _ _ _ => S
    exact h _ _ S.keeps

set_option maxHeartbeats 8000000 in
theorem page_mid {m : Nat} (G : G1 h₀ mg mb) (IH : PageSpec w h₀ m) (hh : A.handled = none) (hd : A.depth + m ≤ 800) (O : EnvOk env L K5 Gs5) {d b : Addr} {e1 : Value} {n n' : Nat} {rs : List Value} {nm ip s2 : Str} {tn ti t2 : Tok} {r : N} {Q : Flow → Shared → Prop}
    (hz : z d = some (listOf #[e1, .str s2 t2, .ref b] n)) (hzb : z b = some (listOf rs.toArray n')) (hr : r.isE = false) (hk : r.Ok) (hrep : r.Rep z rs) (hdep : r.dep ≤ m) (hdep6 : r.dep ≤ 6) (hcnt : r.cnt ≤ 729) (hnm : nm.length = 1) (hip : ip.length ≤ 640000) (his : sp ip ≤ 18000) (hs2 : Fill s2)
    (S : St h₀ g z L K5 [some (.ref d), some (.str ip ti), some (.str nm tn), none, none] [] s)
    (h : ∀ t' s', Keeps g s' → Q (.ret (.str (Str.ofString "<" ++ nm ++ Str.ofString " p=\"" ++ escF true ip ++ Str.ofString "\" q='" ++ escF true s2 ++ Str.ofString "'>" ++ r.page ++ Str.ofString "</" ++ nm ++ Str.ofString ">") t')) s') :
    wpAny (model P1 w) A (execs ((bodyOf P1 5).drop 3) env) Q E s := by
  have k1 : (Str.ofString "<").length = 1 := by decide +kernel
  have k2 : (Str.ofString " p=\"").length = 4 := by decide +kernel
  have k3 : (Str.ofString "\" q='").length = 5 := by decide +kernel
  have k4 : (Str.ofString "'>").length = 2 := by decide +kernel
  have k5 := esc_len true ip
  have k6 := (N.fill_esc true hs2).1
  have hs12 : s2.length ≤ 12 := hs2.1.1
  have hs4 : sp s2 ≤ 4 := hs2.2
  refine exC ?_
  repeat walk_at "zz"
  with_reducible rename St _ _ _ _ _ _ _ _ => S
  refine addS S (by rw [sizeLine_eq]; omega) ?_
  clear S; intro t7 s S
  repeat walk_at "zz"
  with_reducible rename St _ _ _ _ _ _ _ _ => S
  refine addS S (by rw [sizeLine_eq, Str.length_append]; omega) ?_
  clear S; intro t7 s S
  repeat walk_at "zz"
  with_reducible rename St _ _ _ _ _ _ _ _ => S
  refine ldG S O (by decide) G.gn G.g22 ?_
  obtain ⟨oc', od, osl, name, qual, kV, doc, pm, an, cdv, ct, ho, hcd⟩ := id G.f22
  refine callWith_fn ho rfl ?_ rfl
  repeat walk_at "zz"
  with_reducible rename St _ _ _ _ _ _ _ _ => S
  refine ⟨S.base, useSpec S (esc_spec1 G (by omega) S.base (by omega)) ?_⟩
  intro v z₃ s₂ le₃ len₃ S₂ hv₂
  obtain ⟨tw, rfl⟩ := hv₂
  clear S
  repeat walk_at "zz"
  with_reducible rename St _ _ _ _ _ _ _ _ => S
  refine addS S (by rw [sizeLine_eq, Str.length_append, Str.length_append]; omega) ?_
  clear S; intro t7 s S
  repeat walk_at "zz"
  with_reducible rename St _ _ _ _ _ _ _ _ => S
  refine addS S (by rw [sizeLine_eq, Str.length_append, Str.length_append, Str.length_append]; omega) ?_
  clear S; intro t7 s S
  repeat walk_at "zz"
  with_reducible rename St _ _ _ _ _ _ _ _ => S
  refine ldG S O (by decide) G.gn G.g22 ?_
  refine callWith_fn ho rfl ?_ rfl
  repeat walk_at "zz"
  with_reducible rename St _ _ _ _ _ _ _ _ => S
  refine itemZ (isL S (le₃ _ _ hz)) (by omega) (by omega) rfl ?_
  repeat walk_at "zz"
  with_reducible rename St _ _ _ _ _ _ _ _ => S
  refine newT S ?hsz ?_
  case hsz => exact Nat.le_of_ble_eq_true rfl
  clear S; intro T s S
  obtain ⟨z₄, le₄, hzT, _, S⟩ := S.freeze
  repeat walk_at "zz"
  with_reducible rename St _ _ _ _ _ _ _ _ => S
  refine itemZ (isL S (le₄ _ _ (le₃ _ _ hz))) (by omega) (by omega) rfl ?_
  repeat walk_at "zz"
  with_reducible rename St _ _ _ _ _ _ _ _ => S
  refine lenS S (by omega) ?_
  clear S; intro t5 s S
  repeat walk_at "zz"
  with_reducible rename St _ _ _ _ _ _ _ _ => S
  have hm := fmod_pos (a := (s2.length : Int)) (b := 3) (by decide)
  obtain ⟨qv, hqv, hsay⟩ : ∃ qv, _ ∧ Says h₀ w qv true := pick3 _ _ hm.1 hm.2
  refine itemT (isT S hzT) hm.1 (by omega) hqv ?_
  repeat walk_at "zz"
  with_reducible rename St _ _ _ _ _ _ _ _ => S
  refine ⟨S.base, useSpec S (esc_spec G (by omega) S.base (by omega) hsay) ?_⟩
  intro v z₅ s₂ le₅ len₅ S₂ hv₂
  obtain ⟨tw2, rfl⟩ := hv₂
  clear S
  repeat walk_at "zz"
  with_reducible rename St _ _ _ _ _ _ _ _ => S
  refine addS S (by rw [sizeLine_eq, Str.length_append, Str.length_append, Str.length_append, Str.length_append]; omega) ?_
  clear S; intro t7 s S
  repeat walk_at "zz"
  with_reducible rename St _ _ _ _ _ _ _ _ => S
  refine addS S (by rw [sizeLine_eq, Str.length_append, Str.length_append, Str.length_append, Str.length_append, Str.length_append]; omega) ?_
  clear S; intro t7 s S
  repeat walk_at "zz"
  with_reducible rename St _ _ _ _ _ _ _ _ => S
  have le' := (le₃.trans le₄).trans le₅
  have hz' := le' _ _ hz
  have hzb' := le' _ _ hzb
  have hrep' := hrep.mono le'
  have hpl : (Str.ofString "<" ++ nm ++ Str.ofString " p=\"" ++ escF true ip ++ Str.ofString "\" q='" ++ escF true s2 ++ Str.ofString "'>").length ≤ 800000 := by
    rw [Str.length_append, Str.length_append, Str.length_append, Str.length_append, Str.length_append, Str.length_append]; omega
  have e := page_loop (E := E) (Q := Q) G IH hh hd O hz' hzb' hr hk hrep' hdep hdep6 hcnt hnm hpl S h
  exact e
end
end

section

section
variable {w : World} {A : Around} {E : Value → Shared → Prop} {h₀ : Heap} {mg mb : Str → Option Value} {g : Shared} {z z' : PHeap} {L : Addr} {K Gs : List Str} {vals : List (Option Value)} {ms : List (Addr × Obj)} {s : Shared} {env : Env}

set_option maxHeartbeats 8000000 in
theorem page_body {m : Nat} (G : G1 h₀ mg mb) (IH : PageSpec w h₀ m) (hh : A.handled = none) (hd : A.depth + m ≤ 800) (O : EnvOk env L K5 Gs5) {d : Addr} {n : N} {Q : Flow → Shared → Prop}
    (hE : n.isE = true) (hOk : n.Ok) (hdep : n.dep ≤ m) (hdep6 : n.dep ≤ 6) (hcnt : n.cnt ≤ 729) (hrep : n.Rep z [.ref d])
    (S : St h₀ g z L K5 [some (.ref d), none, none, none, none] [] s)
    (h : ∀ t' s', Keeps g s' → Q (.ret (.str n.page t')) s') :
    wpAny (model P1 w) A (execs (bodyOf P1 5) env) Q E s := by
  cases n with
  | last x => simp [N.isE] at hE
  | more x k r => simp [N.isE] at hE
  | a i s2 r =>
    obtain ⟨d', t1, t2, b, n1, n2, rs, e, hz, hzb, hr⟩ := hrep
    cases e
    obtain ⟨h1, h2, h3, h4⟩ := hOk
    have hi := h1.1
    have hi2 := h1.2
    simp only [N.dep] at hdep hdep6
    simp only [N.cnt] at hcnt
    refine exC ?_
    repeat walk_at "zz"
    with_reducible rename St _ _ _ _ _ _ _ _ => S
    refine itemZ (x := .str i t1) (isL S hz) (by omega) (by omega) rfl ?_
    repeat walk_at "zz"
    refine exC ?_
    repeat walk_at "zz"
    refine exC ?_
    repeat walk_at "zz"
    rw [Bool.not_true, if_neg Bool.false_ne_true]
    repeat walk_at "zz"
    with_reducible rename St _ _ _ _ _ _ _ _ => S
    have e := page_mid (E := E) (Q := Q) G IH hh hd O hz hzb h3 h4 hr hdep hdep6 (by omega) (by decide +kernel) (by omega) (by omega) h2 S ?hq
    case hq =>
      intro t' s' k
      have e : Str.ofString "<" ++ Str.ofString "a" ++ Str.ofString " p=\"" ++ escF true i ++ Str.ofString "\" q='" ++ escF true s2 ++ Str.ofString "'>" ++ r.page ++ Str.ofString "</" ++ Str.ofString "a" ++ Str.ofString ">" = (N.a i s2 r).page := by
        apply tl_inj
        have q1 : tl (Str.ofString "<a p=\"") = tl (Str.ofString "<") ++ (tl (Str.ofString "a") ++ tl (Str.ofString " p=\"")) := by decide +kernel
        have q2 : tl (Str.ofString "</a>") = tl (Str.ofString "</") ++ (tl (Str.ofString "a") ++ tl (Str.ofString ">")) := by decide +kernel
        simp only [N.page, tl_append, q1, q2, List.append_assoc]
      rw [e]
      exact h _ _ k
    exact e
  | f i s2 r =>
    obtain ⟨d', ei, t2, b, n1, n2, rs, e, hz, hi, hzb, hr⟩ := hrep
    cases e
    obtain ⟨h0, h1, h2, h3, h4⟩ := hOk
    simp only [N.dep] at hdep hdep6
    simp only [N.cnt] at hcnt
    have hd1 := Nat.le_max_left (i.dep + 1) r.dep
    have hd2 := Nat.le_max_right (i.dep + 1) r.dep
    obtain ⟨its, n3, hze⟩ := el_list h0 hi
    have hl := (N.len_page i 6 (by omega) h1).1 h0
    have hs := (N.sp_page i h1).1 h0
    refine exC ?_
    repeat walk_at "zz"
    with_reducible rename St _ _ _ _ _ _ _ _ => S
    refine itemZ (x := .ref ei) (isL S hz) (by omega) (by omega) rfl ?_
    repeat walk_at "zz"
    refine exC ?_
    repeat walk_at "zz"
    refine exC ?_
    repeat walk_at "zz"
    with_reducible rename St _ _ _ _ _ _ _ _ => S
    refine isiL S hze ?_
    clear S; intro s S
    repeat walk_at "zz"
    rw [Bool.not_false, if_pos rfl]
    repeat walk_at "z"
    with_reducible rename St _ _ _ _ _ _ _ _ => S
    refine ldG S O (by decide) G.gn G.g43 ?_
    obtain ⟨oc', od, osl, name, qual, kV, doc, pm, an, cdv, ct, ho, hcd⟩ := G.f43
    refine callWith_fn ho rfl ?_ rfl
    repeat walk_at "zz"
    with_reducible rename St _ _ _ _ _ _ _ _ => S
    refine ⟨S.base, useSpec S (IH A _ ei i hh (by omega) S.base h0 h1 (by omega) (by omega) (by omega) (hi.mono S.keep)) ?_⟩
    intro v z₃ s₂ le₃ len₃ S₂ hv₂
    obtain ⟨tw, rfl⟩ := hv₂
    clear S
    repeat walk_at "zz"
    refine exC ?_
    repeat walk_at "zz"
    with_reducible rename St _ _ _ _ _ _ _ _ => S
    have e := page_mid (E := E) (Q := Q) G IH hh hd O (le₃ _ _ hz) (le₃ _ _ hzb) h3 h4 (hr.mono le₃) (by omega) (by omega) (by omega) (by decide +kernel) (by omega) (by omega) h2 S ?hq
    case hq =>
      intro t' s' k
      have e : Str.ofString "<" ++ Str.ofString "f" ++ Str.ofString " p=\"" ++ escF true i.page ++ Str.ofString "\" q='" ++ escF true s2 ++ Str.ofString "'>" ++ r.page ++ Str.ofString "</" ++ Str.ofString "f" ++ Str.ofString ">" = (N.f i s2 r).page := by
        apply tl_inj
        have q1 : tl (Str.ofString "<f p=\"") = tl (Str.ofString "<") ++ (tl (Str.ofString "f") ++ tl (Str.ofString " p=\"")) := by decide +kernel
        have q2 : tl (Str.ofString "</f>") = tl (Str.ofString "</") ++ (tl (Str.ofString "f") ++ tl (Str.ofString ">")) := by decide +kernel
        simp only [N.page, tl_append, q1, q2, List.append_assoc]
      rw [e]
      exact h _ _ k
    exact e
theorem sc5 : ScopeOk (scopeOf P1 5) K5 Gs5 := by
  refine ⟨?_, ?_, ?_, ?_, ?_, ?_, ?_, ?_, ?_⟩ <;> decide +kernel
theorem page_spec (G : G1 h₀ mg mb) : ∀ m, PageSpec w h₀ m
  | 0 => fun A s d n hh hd h0 hE hOk hdep => absurd hdep (Nat.not_lt_zero _)
  | m + 1 => by
    intro A s d n hh hd h0 hE hOk hdep hdep6 hcnt hrep
    obtain ⟨oc, od, osl, name, qual, kV, doc, pm, an, cdv, ct, ho, hcd⟩ := G.f43
    refine enterFn (names := ["node"]) (rest := ["inner", "name", "page", "kid"]) (vs := [.ref d]) ho hcd G.lim h0 (by omega) (BindsTo.of_eq rfl) rfl sc5 rfl rfl ?_
    intro s' env E' O _ S
    have hh' : (A.deeper env).handled = none := hh
    have hd' : (A.deeper env).depth + m ≤ 800 := by rw [Around.deeper]; simp only; omega
    have hdm : n.dep ≤ m := by omega
    have IH := page_spec G m
    have S : St h₀ s s.heap.get? s.heap.objs.size K5 [some (.ref d), none, none, none, none] [] s' := S
    with_reducible refine page_body G IH hh' hd' O hE hOk hdm hdep6 hcnt hrep S ?_
    intro t' s' k
    exact ⟨k, t', rfl⟩
end
end

section
namespace N
/-- a row with one more kid and text -/
def snoc : N → N → Str → N
  | .last x, k, y => .more x k (.last y)
  | .more x j r, k, y => .more x j (r.snoc k y)
  | n, _, _ => n
theorem snoc_isE : ∀ {r : N} {k : N} {y : Str}, r.isE = false → (r.snoc k y).isE = false
  | .last _, _, _, _ => rfl
  | .more _ _ _, _, _, _ => rfl
theorem snoc_ok : ∀ {r : N} {k : N} {y : Str}, r.isE = false → r.Ok → k.isE = true → k.Ok → Fill y → (r.snoc k y).Ok
  | .last _, _, _, _, h, h1, h2, h3 => ⟨h, h1, h2, rfl, h3⟩
  | .more _ _ _, _, _, _, ⟨p, q, c, d, e⟩, h1, h2, h3 => ⟨p, q, c, snoc_isE d, snoc_ok d e h1 h2 h3⟩
theorem snoc_cnt : ∀ {r : N} {k : N} {y : Str}, r.isE = false → r.Ok → (r.snoc k y).cnt = r.cnt + k.cnt
  | .last _, k, _, _, _ => by simp [snoc, cnt]
  | .more _ j r, k, y, _, ⟨_, _, _, d, e⟩ => by
    have := snoc_cnt (k := k) (y := y) d e
    simp only [snoc, cnt, this]; omega
theorem snoc_dep {m : Nat} : ∀ {r : N} {k : N} {y : Str}, r.isE = false → r.Ok → r.dep ≤ m → k.dep + 1 ≤ m → (r.snoc k y).dep ≤ m
  | .last _, k, _, _, _, _, h => by simp only [snoc, dep]; omega
  | .more _ j r, k, y, _, ⟨_, _, _, d, e⟩, h1, h2 => by
    simp only [dep] at h1
    have := snoc_dep (k := k) (y := y) d e (by omega) h2
    simp only [snoc, dep]; omega
theorem snoc_rep {z : PHeap} : ∀ {r : N} {vs : List Value} {k : N} {y : Str} {e : Addr} {t : Tok}, r.isE = false → r.Ok → r.Rep z vs → k.Rep z [.ref e] → (r.snoc k y).Rep z (vs ++ [.ref e, .str y t])
  | .last _, _, _, _, e, t, _, _, ⟨t', h⟩, h2 => by
    subst h
    exact ⟨t', e, _, rfl, h2, t, rfl⟩
  | .more _ j r, _, _, _, e, t, _, ⟨_, _, _, d, ok⟩, ⟨t', e', rs, h1, h2, h3⟩, h4 => by
    subst h1
    exact ⟨t', e', _, rfl, h2, snoc_rep d ok h3 h4⟩
end N

/-- sums of powers over a list that climbs -/
def psum (k : Nat) (l : List Nat) : Nat := (l.map fun j => 3 ^ (k - 1 - j)).sum
theorem psum_le {k : Nat} : ∀ (l : List Nat) (a : Nat), a < k → (∀ j ∈ l, a < j ∧ j < k) → l.Pairwise (· < ·) → 2 * psum k l + 1 ≤ 3 ^ (k - 1 - a)
  | [], a, _, _, _ => by
    have := Nat.pow_pos (n := k - 1 - a) (show 0 < 3 by decide)
    simp [psum]; omega
  | j :: l, a, ha, hl, hp => by
    obtain ⟨h1, h2⟩ := hl j (.head _)
    have ih := psum_le l j h2 (fun i hi => ⟨(List.pairwise_cons.mp hp).1 i hi, (hl i (.tail _ hi)).2⟩) (List.pairwise_cons.mp hp).2
    have e : psum k (j :: l) = 3 ^ (k - 1 - j) + psum k l := by simp [psum]
    have h3 : 3 ^ (k - 1 - j + 1) ≤ 3 ^ (k - 1 - a) := Nat.pow_le_pow_right (by decide) (by omega)
    rw [Nat.pow_succ] at h3
    omega
end

section

/-- the three lists of the law: what each element is filled with, its frame's place, its kids' places -/
structure Lists (z : PHeap) (F R D : Addr) (k : Nat) (rs : List Nat) (ks : List (List Nat)) : Prop where
  small : k ≤ 7
  fill : ∃ (vs : List Value) (n : Nat) (fs : List Int), z F = some (listOf vs.toArray n) ∧ IntsAre vs fs ∧ fs.length = k
  frame : ∃ (vs : List Value) (n : Nat), z R = some (listOf vs.toArray n) ∧ IntsAre vs (rs.map Int.ofNat)
  rlen : rs.length = k
  kids : ∃ (vs : List Value) (n : Nat), z D = some (listOf vs.toArray n) ∧ vs.length = k ∧ ∀ (i : Nat) (v : Value), vs[i]? = some v → ∃ (l : List Nat) (c : Addr) (us : List Value) (m : Nat), ks[i]? = some l ∧ v = .ref c ∧ z c = some (listOf us.toArray m) ∧ IntsAre us (l.map Int.ofNat)
  frm : ∀ (i f : Nat), rs[i]? = some f → f = 0 ∨ (i < f ∧ f < k)
  kid : ∀ (i : Nat) (l : List Nat), ks[i]? = some l → (∀ j ∈ l, i < j ∧ j < k) ∧ l.Pairwise (· < ·)
theorem Lists.mono {z z' : PHeap} {F R D : Addr} {k : Nat} {rs : List Nat} {ks : List (List Nat)} (h : Lists z F R D k rs ks) (le : Le z z') : Lists z' F R D k rs ks := by
  obtain ⟨h1, ⟨vs, n, fs, a, b⟩, ⟨vs', n', a', b'⟩, h4, ⟨us, m, c, d, e⟩, h6, h7⟩ := h
  refine ⟨h1, ⟨vs, n, fs, le _ _ a, b⟩, ⟨vs', n', le _ _ a', b'⟩, h4, ⟨us, m, le _ _ c, d, fun i v hv => ?_⟩, h6, h7⟩
  obtain ⟨l, c, us, m, p, q, r, t⟩ := e i v hv
  exact ⟨l, c, us, m, p, q, le _ _ r, t⟩

def TreeSpec (w : World) (h₀ : Heap) (m : Nat) : Prop := ∀ (A : Around) (s : Shared) (F R D : Addr) (k a : Nat) (t : Tok) (rs : List Nat) (ks : List (List Nat)), A.handled = none → A.depth + m ≤ 800 → Le h₀.get? s.heap.get? → Lists s.heap.get? F R D k rs ks → a < k → k < a + m →
  codeAny (model P1 w) A (.call (.ref 36) ⟨[.ref F, .ref R, .ref D, .int (a : Nat) t], []⟩) (fun r s' => ∃ v, r = .ok (.ret v) ∧ Keeps s s' ∧ ∃ (d : Addr) (n : N), v = .ref d ∧ n.isE = true ∧ n.Ok ∧ n.dep ≤ k - 1 - a ∧ n.cnt ≤ 3 ^ (k - 1 - a) ∧ n.Rep (nw s.heap.objs.size s'.heap.get?) [.ref d]) s
section
variable {w : World} {A : Around} {E : Value → Shared → Prop} {h₀ : Heap} {mg mb : Str → Option Value} {g : Shared} {z z' : PHeap} {L : Addr} {K Gs : List Str} {vals : List (Option Value)} {ms : List (Addr × Obj)} {s : Shared} {env : Env}
theorem powI {a n : Int} {t u : Tok} {Q : Value → Shared → Prop} (S : St h₀ g z L K vals ms s) (hn : 0 ≤ n) (hn2 : n ≤ 1000000) (ha : a.natAbs < 2 ^ 64) (h : ∀ t' s', St h₀ g z L K vals ms s' → Q (.int (a ^ n.toNat) t') s') : wpAny (model P1 w) A (binaryOp .Pow (.int a t) (.int n u)) Q E s :=
  pow_int_small hn hn2 ha (h _ _ (S.tok _))
theorem len_psum {k : Nat} : ∀ l : List Nat, l.length ≤ psum k l
  | [] => Nat.le_refl _
  | j :: l => by
    have ih := len_psum (k := k) l
    have e : psum k (j :: l) = 3 ^ (k - 1 - j) + psum k l := by simp [psum]
    have := Nat.pow_pos (n := k - 1 - j) (show 0 < 3 by decide)
    rw [e, List.length_cons]; omega
theorem ints_at {vs : List Value} {ns : List Int} (h : IntsAre vs ns) : ∀ {l : List Nat} {i : Nat} {v : Value}, ns = l.map Int.ofNat → vs[i]? = some v → ∃ j t, v = .int (j : Nat) t ∧ l[i]? = some j := by
  induction h with
  | nil => intro l i v _ hv; simp at hv
  | cons n t _ ih =>
    intro l i v e hv
    cases l with
    | nil => simp at e
    | cons j l =>
      simp only [List.map_cons, List.cons.injEq] at e
      cases i with
      | zero => simp at hv; subst hv; rw [e.1]; exact ⟨j, t, rfl, rfl⟩
      | succ i => simpa using ih e.2 (by simpa using hv)
abbrev K4 : List Str := ["fills", "framed", "kids", "at", "fill", "inner", "row", "kid"]
abbrev Gs4 : List Str := ["_law_filling", "_law_tree"]
theorem psum_take {k i j : Nat} {l : List Nat} (h : l[i]? = some j) : psum k (l.take (i + 1)) = psum k (l.take i) + 3 ^ (k - 1 - j) := by
  unfold psum
  rw [List.take_add_one, h]
  simp

set_option maxHeartbeats 8000000 in
theorem tree_loop {m : Nat} (G : G1 h₀ mg mb) (IH : TreeSpec w h₀ m) (hh : A.handled = none) (hd : A.depth + m ≤ 800) (O : EnvOk env L K4 Gs4) {F R D B : Addr} {k a n0 : Nat} {ta tf : Tok} {nf : Int} {iv : Value} {x : Option Value} {r0 : N} {vs0 : List Value} {rs : List Nat} {ks : List (List Nat)} {Q : Flow → Shared → Prop}
    (hL : Lists z F R D k rs ks) (ha : a < k) (hm : k ≤ a + m) (hr0 : r0.isE = false) (hr1 : r0.Ok) (hr2 : r0.dep = 0) (hr3 : r0.cnt = 0) (hr4 : r0.Rep (nw g.heap.objs.size z) vs0) (hr5 : vs0.length = 1)
    (S : St h₀ g z L K4 [some (.ref F), some (.ref R), some (.ref D), some (.int (a : Nat) ta), some (.int nf tf), some iv, some (.ref B), x] [(B, listOf vs0.toArray n0)] s)
    (h : ∀ (s' : Shared) (z' : PHeap) (r : N) (vs : List Value) (n : Nat) (y : Option Value), Le z z' → r.isE = false → r.Ok → r.dep ≤ k - 1 - a → 2 * r.cnt + 1 ≤ 3 ^ (k - 1 - a) → r.Rep (nw g.heap.objs.size z') vs →
      St h₀ g z' L K4 [some (.ref F), some (.ref R), some (.ref D), some (.int (a : Nat) ta), some (.int nf tf), some iv, some (.ref B), y] [(B, listOf vs.toArray n)] s' →
      wpAny (model P1 w) A (execs ((bodyOf P1 4).drop 5) env) Q E s') :
    wpAny (model P1 w) A (execs ((bodyOf P1 4).drop 4) env) Q E s := by
  obtain ⟨hk7, hfill, hframe, hrl, ⟨us, n1, hz, hul, hget⟩, hfrm, hkid⟩ := id hL
  obtain ⟨v, hv⟩ : ∃ v, us[a]? = some v := ⟨us[a]'(by omega), List.getElem?_eq_getElem (by omega)⟩
  obtain ⟨l, c, ws, m1, hl, rfl, hzc, hws⟩ := hget a v hv
  obtain ⟨hkj, hkp⟩ := hkid a l hl
  refine exC ?_
  repeat walk_at "zz"
  with_reducible rename St _ _ _ _ _ _ _ _ => S
  refine itemZ (x := .ref c) (isL S hz) (by omega) (by omega) (by simpa using hv) ?_
  refine forL S hh hzc (fun i z' vals' ms' => ∃ (r : N) (vs : List Value) (n : Nat) (y : Option Value), vals' = [some (.ref F), some (.ref R), some (.ref D), some (.int (a : Nat) ta), some (.int nf tf), some iv, some (.ref B), y] ∧ ms' = [(B, listOf vs.toArray n)] ∧
      r.isE = false ∧ r.Ok ∧ r.dep ≤ k - 1 - a ∧ r.cnt ≤ psum k (l.take i) ∧ r.Rep (nw g.heap.objs.size z') vs ∧ vs.length = 2 * i + 1) ⟨r0, vs0, n0, _, rfl, rfl, hr0, hr1, by omega, by omega, hr4, by omega⟩ ?_ ?_
  · clear S
    intro E' i v z₁ vals' I o ms' s hv le hJ S
    obtain ⟨r, vs, n, y, rfl, rfl, h1, h2, h3, h4, h5, h6⟩ := hJ
    obtain ⟨j, tj, rfl, hj⟩ := ints_at hws rfl hv
    obtain ⟨hj1, hj2⟩ := hkj j (List.mem_of_getElem? hj)
    have hi364 : i < 365 := by
      have e1 := psum_le l a ha hkj hkp
      have e2 : 3 ^ (k - 1 - a) ≤ 3 ^ 6 := Nat.pow_le_pow_right (by decide) (by omega)
      have e3 := len_psum (k := k) l
      have e4 := (List.getElem?_eq_some_iff.mp hj).1
      omega
    refine wpAny_assign_Name ?_
    repeat walk_at "zz"
    refine exC ?_
    repeat walk_at "zz"
    with_reducible rename St _ _ _ _ _ _ _ _ => S
    refine getAppend S (.tail _ (.head _)) ?_
    repeat walk_at "zz"
    with_reducible rename St _ _ _ _ _ _ _ _ => S
    refine ldG S O (by decide) G.gn G.g36 ?_
    obtain ⟨oc', od, osl, name, qual, kV, doc, pm, an, cdv, ct, ho, hcd⟩ := G.f36
    refine callWith_fn ho rfl ?_ rfl
    repeat walk_at "zz"
    with_reducible rename St _ _ _ _ _ _ _ _ => S
    refine ⟨S.base, useSpec S (IH A _ F R D k j tj rs ks hh (by omega) S.base (hL.mono (le.trans S.keep)) hj2 (by omega)) ?_⟩
    intro v z₂ s₂ le₂ len₂ S₂ hv₂
    obtain ⟨e, kd, rfl, q1, q2, q3, q4, q5⟩ := hv₂
    have q5 := q5.mono len₂
    clear S
    repeat walk_at "zz"
    refine app1 S₂ (by rw [List.size_toArray, sizeLine_eq]; omega) ?_
    clear S₂; intro s S
    rw [List.push_toArray] at S
    repeat walk_at "z"
    with_reducible rename St _ _ _ _ _ _ _ _ => S
    refine getAppend S (.tail _ (.head _)) ?_
    repeat walk_at "zz"
    with_reducible rename St _ _ _ _ _ _ _ _ => S
    refine ldG S O (by decide) G.gn G.g29 ?_
    obtain ⟨oc2, od2, osl2, name2, qual2, kV2, doc2, pm2, an2, cdv2, ct2, ho2, hcd2⟩ := G.f29
    refine callWith_fn ho2 rfl ?_ rfl
    obtain ⟨fvs, nF, fs, hzF, hfs, hfl⟩ := id hfill
    obtain ⟨d1, tk1, hd1, _⟩ := ints_get hfs (i := j) (by omega)
    repeat walk_at "zz"
    with_reducible rename St _ _ _ _ _ _ _ _ => S
    refine itemZ (x := .int d1 tk1) (isL S (le₂ _ _ (le _ _ hzF))) (by omega) (by omega) (by simpa using hd1) ?_
    repeat walk_at "zz"
    with_reducible rename St _ _ _ _ _ _ _ _ => S
    refine powI S (by decide) (by decide) (by decide) ?_
    clear S; intro t5 s S
    repeat walk_at "zz"
    with_reducible rename St _ _ _ _ _ _ _ _ => S
    refine divI S (by decide) (PyProof.noPylong_small (by decide)) ?_
    clear S; intro t6 s S
    repeat walk_at "zz"
    with_reducible rename St _ _ _ _ _ _ _ _ => S
    refine ⟨S.base, useSpec S (fill_spec G hh (by omega) S.base) ?_⟩
    intro v z₃ s₂ le₃ len₃ S₂ hv₂
    obtain ⟨y2, ty2, rfl, hy2⟩ := hv₂
    clear S
    repeat walk_at "zz"
    refine app1 S₂ (by rw [List.size_toArray, List.length_append, sizeLine_eq]; simp only [List.length_cons, List.length_nil]; omega) ?_
    clear S₂; intro s S
    rw [List.push_toArray, List.append_assoc] at S
    repeat walk_at "z"
    have hc := N.snoc_cnt (k := kd) (y := y2) h1 h2
    have hp := psum_take (k := k) hj
    refine ⟨_, _, _, le₂.trans le₃, ⟨r.snoc kd y2, _, _, _, rfl, rfl, N.snoc_isE h1, N.snoc_ok h1 h2 q1 q2 hy2, N.snoc_dep h1 h2 h3 (by omega), by omega, N.snoc_rep h1 h2 (h5.mono (nw_mono (le₂.trans le₃))) (q5.mono (nw_mono le₃)), ?_⟩, S⟩
    rw [List.length_append]; show _ + 2 = _; omega
  · clear S
    intro z₁ vals' ms' s le hJ S
    obtain ⟨r, vs, n, y, rfl, rfl, h1, h2, h3, h4, h5, h6⟩ := hJ
    repeat walk_at "zz"
    have e := psum_le l a ha hkj hkp
    have e2 : r.cnt ≤ psum k l := by
      refine Nat.le_trans h4 ?_
      rw [hws.length, List.length_map, List.take_length]
      exact Nat.le_refl _
    have e3 := h _ z₁ r vs n y le h1 h2 h3 (by omega) h5 S
    exact e3
end
end

section

section
variable {w : World} {A : Around} {E : Value → Shared → Prop} {h₀ : Heap} {mg mb : Str → Option Value} {g : Shared} {z z' : PHeap} {L : Addr} {K Gs : List Str} {vals : List (Option Value)} {ms : List (Addr × Obj)} {s : Shared} {env : Env}

/-- what stands as the first thing of an element: a text, or another element -/
def Inner (z : PHeap) (k a : Nat) (iv : Value) : Prop :=
  (∃ x t, iv = .str x t ∧ Fill x) ∨ ∃ (e : Addr) (i : N), iv = .ref e ∧ i.isE = true ∧ i.Ok ∧ i.dep + 1 ≤ k - 1 - a ∧ 3 * i.cnt ≤ 3 ^ (k - 1 - a) ∧ i.Rep z [.ref e]
theorem Inner.mono {k a : Nat} {iv : Value} (h : Inner z k a iv) (le : Le z z') : Inner z' k a iv := by
  rcases h with h | ⟨e, i, h1, h2, h3, h4, h5, h6⟩
  · exact .inl h
  · exact .inr ⟨e, i, h1, h2, h3, h4, h5, h6.mono le⟩
def TreeAt (z : PHeap) (k a : Nat) (d : Addr) : Prop := ∃ n : N, n.isE = true ∧ n.Ok ∧ n.dep ≤ k - 1 - a ∧ n.cnt ≤ 3 ^ (k - 1 - a) ∧ n.Rep z [.ref d]
theorem tree_at {k a : Nat} {iv : Value} {y : Str} {t : Tok} {d B : Addr} {vs : List Value} {n n' : Nat} {r : N} (hi : Inner z k a iv) (hy : Fill y) (h1 : r.isE = false) (h2 : r.Ok) (h3 : r.dep ≤ k - 1 - a) (h4 : 2 * r.cnt + 1 ≤ 3 ^ (k - 1 - a)) (h5 : r.Rep z vs)
    (hB : z B = some (listOf vs.toArray n)) (hd : z d = some (listOf #[iv, .str y t, .ref B] n')) : TreeAt z k a d := by
  rcases hi with ⟨x, tx, rfl, hx⟩ | ⟨e, i, rfl, g1, g2, g3, g4, g5⟩
  · exact ⟨.a x y r, rfl, ⟨hx, hy, h1, h2⟩, h3, by simp only [N.cnt]; omega, d, tx, t, B, n', n, vs, rfl, hd, hB, h5⟩
  · refine ⟨.f i y r, rfl, ⟨g1, g2, hy, h1, h2⟩, by simp only [N.dep]; omega, ?_, d, e, t, B, n', n, vs, rfl, hd, g5, hB, h5⟩
    have : 3 ^ 1 ≤ 3 ^ (k - 1 - a) := Nat.pow_le_pow_right (by decide) (by omega)
    simp only [N.cnt]; omega

set_option maxHeartbeats 8000000 in
theorem tree_body {m : Nat} (G : G1 h₀ mg mb) (IH : TreeSpec w h₀ m) (hh : A.handled = none) (hd : A.depth + m ≤ 800) (O : EnvOk env L K4 Gs4) {F R D : Addr} {k a : Nat} {ta : Tok} {rs : List Nat} {ks : List (List Nat)} {Q : Flow → Shared → Prop}
    (hL : Lists z F R D k rs ks) (ha : a < k) (hm : k ≤ a + m)
    (S : St h₀ g z L K4 [some (.ref F), some (.ref R), some (.ref D), some (.int (a : Nat) ta), none, none, none, none] [] s)
    (h : ∀ d s', Keeps g s' → TreeAt (nw g.heap.objs.size s'.heap.get?) k a d → Q (.ret (.ref d)) s') :
    wpAny (model P1 w) A (execs (bodyOf P1 4) env) Q E s := by
  obtain ⟨hk7, ⟨fvs, nF, fs, hzF, hfs, hfl⟩, ⟨rvs, nR, hzR, hrs⟩, hrl, _, hfrm, _⟩ := id hL
  obtain ⟨d1, tk1, hd1, _⟩ := ints_get hfs (i := a) (by omega)
  obtain ⟨rv, hrv⟩ : ∃ v, rvs[a]? = some v := ⟨rvs[a]'(by rw [hrs.length, List.length_map]; omega), List.getElem?_eq_getElem (by rw [hrs.length, List.length_map]; omega)⟩
  obtain ⟨f, tf, rfl, hf⟩ := ints_at hrs rfl hrv
  have hff := hfrm a f hf
  obtain ⟨oc2, od2, osl2, name2, qual2, kV2, doc2, pm2, an2, cdv2, ct2, ho2, hcd2⟩ := id G.f29
  refine exC ?_
  repeat walk_at "zz"
  with_reducible rename St _ _ _ _ _ _ _ _ => S
  refine itemZ (x := .int d1 tk1) (isL S hzF) (by omega) (by omega) (by simpa using hd1) ?_
  repeat walk_at "zz"
  refine exC ?_
  repeat walk_at "zz"
  with_reducible rename St _ _ _ _ _ _ _ _ => S
  refine ldG S O (by decide) G.gn G.g29 ?_
  refine callWith_fn ho2 rfl ?_ rfl
  repeat walk_at "zz"
  with_reducible rename St _ _ _ _ _ _ _ _ => S
  refine ⟨S.base, useSpec S (fill_spec G hh (by omega) S.base) ?_⟩
  intro v z₁ s₁ le₁ len₁ S₁ hv₁
  obtain ⟨x0, t0, rfl, hx0⟩ := hv₁
  clear S
  repeat walk_at "zz"
  with_reducible rename St _ _ _ _ _ _ _ _ => S
  refine exJ (fun s' => ∃ z₂ iv, Le z₁ z₂ ∧ Inner (nw g.heap.objs.size z₂) k a iv ∧ St h₀ g z₂ L K4 [some (.ref F), some (.ref R), some (.ref D), some (.int (a : Nat) ta), some (.int d1 tk1), some iv, none, none] [] s') ?_ ?_
  · intro Q' hQ'
    repeat walk_at "zz"
    with_reducible rename St _ _ _ _ _ _ _ _ => S
    refine itemZ (x := .int (f : Nat) tf) (isL S (le₁ _ _ hzR)) (by omega) (by omega) (by simpa using hrv) ?_
    repeat walk_at "zz"
    refine iteB ?_ ?_
    · intro e
      have hf0 : 0 < f := by simpa using e
      have haf : a < f ∧ f < k := by omega
      refine exC ?_
      repeat walk_at "zz"
      with_reducible rename St _ _ _ _ _ _ _ _ => S
      refine ldG S O (by decide) G.gn G.g36 ?_
      obtain ⟨oc', od, osl, name, qual, kV, doc, pm, an, cdv, ct, ho, hcd⟩ := G.f36
      refine callWith_fn ho rfl ?_ rfl
      repeat walk_at "zz"
      with_reducible rename St _ _ _ _ _ _ _ _ => S
      refine itemZ (x := .int (f : Nat) tf) (isL S (le₁ _ _ hzR)) (by omega) (by omega) (by simpa using hrv) ?_
      repeat walk_at "zz"
      with_reducible rename St _ _ _ _ _ _ _ _ => S
      refine ⟨S.base, useSpec S (IH A _ F R D k f tf rs ks hh (by omega) S.base (hL.mono (le₁.trans S.keep)) haf.2 (by omega)) ?_⟩
      intro v z₂ s₂ le₂ len₂ S₂ hv₂
      obtain ⟨e, kd, rfl, q1, q2, q3, q4, q5⟩ := hv₂
      have q5 := q5.mono len₂
      clear S
      repeat walk_at "z"
      with_reducible rename St _ _ _ _ _ _ _ _ => S
      refine hQ' _ ⟨z₂, _, le₂, .inr ⟨e, kd, rfl, q1, q2, by omega, ?_, q5⟩, S⟩
      have e3 : 3 ^ (k - 1 - f + 1) ≤ 3 ^ (k - 1 - a) := Nat.pow_le_pow_right (by decide) (by omega)
      rw [Nat.pow_succ] at e3
      omega
    · intro e
      repeat walk_at "z"
      with_reducible rename St _ _ _ _ _ _ _ _ => S
      exact hQ' _ ⟨z₁, _, Le.refl _, .inl ⟨x0, t0, rfl, hx0⟩, S⟩
  · clear S
    intro s hJ
    obtain ⟨z₂, iv, le₂, hI, S⟩ := hJ
    refine exC ?_
    repeat walk_at "zz"
    with_reducible rename St _ _ _ _ _ _ _ _ => S
    refine ldG S O (by decide) G.gn G.g29 ?_
    refine callWith_fn ho2 rfl ?_ rfl
    repeat walk_at "zz"
    with_reducible rename St _ _ _ _ _ _ _ _ => S
    refine powI S (by decide) (by decide) (by decide) ?_
    clear S; intro t5 s S
    repeat walk_at "zz"
    with_reducible rename St _ _ _ _ _ _ _ _ => S
    refine divI S (by decide) (PyProof.noPylong_small (by decide)) ?_
    clear S; intro t6 s S
    repeat walk_at "zz"
    with_reducible rename St _ _ _ _ _ _ _ _ => S
    refine ⟨S.base, useSpec S (fill_spec G hh (by omega) S.base) ?_⟩
    intro v z₃ s₂ le₃ len₃ S₂ hv₂
    obtain ⟨y2, ty2, rfl, hy2⟩ := hv₂
    clear S
    repeat walk_at "zz"
    with_reducible rename St _ _ _ _ _ _ _ _ => S
    refine newL S ?hsz ?_
    case hsz => exact Nat.le_of_ble_eq_true rfl
    clear S; intro B s S
    repeat walk_at "zz"
    with_reducible rename St _ _ _ _ _ _ _ _ => S
    have hL' := hL.mono (le₁.trans (le₂.trans le₃))
    have hOk : (N.last y2).Ok := hy2
    have hR : (N.last y2).Rep (nw g.heap.objs.size z₃) [.str y2 ty2] := ⟨ty2, rfl⟩
    have hI := hI.mono (nw_mono le₃)
    have e := tree_loop (E := E) (Q := Q) G IH hh hd O hL' ha hm rfl hOk rfl rfl hR rfl S ?hq
    case hq =>
      clear S
      intro s z₄ r vs n y le₄ h1 h2 h3 h4 h5 S
      have hI := hI.mono (nw_mono le₄)
      refine exC ?_
      repeat walk_at "zz"
      with_reducible rename St _ _ _ _ _ _ _ _ => S
      refine ldG S O (by decide) G.gn G.g29 ?_
      refine callWith_fn ho2 rfl ?_ rfl
      repeat walk_at "zz"
      with_reducible rename St _ _ _ _ _ _ _ _ => S
      refine divI S (by decide) (PyProof.noPylong_small (by decide)) ?_
      clear S; intro t7 s S
      repeat walk_at "zz"
      with_reducible rename St _ _ _ _ _ _ _ _ => S
      refine ⟨S.base, useSpec S (fill_spec G hh (by omega) S.base) ?_⟩
      intro v z₅ s₃ le₅ len₅ S₃ hv₃
      obtain ⟨y3, ty3, rfl, hy3⟩ := hv₃
      clear S
      repeat walk_at "zz"
      with_reducible rename St _ _ _ _ _ _ _ _ => S
      refine newL S ?hsz ?_
      case hsz => exact Nat.le_of_ble_eq_true rfl
      clear S; intro W s S
      obtain ⟨z₆, le₆, _, hW, S⟩ := S.freeze
      obtain ⟨z₇, le₇, _, hB, S⟩ := S.freeze
      repeat walk_at "zz"
      with_reducible rename St _ _ _ _ _ _ _ _ => S
      refine h _ _ S.keeps ?_
      have le := nw_mono (n := g.heap.objs.size) S.keep
      have h5 := h5.mono (nw_mono (n := g.heap.objs.size) (le₅.trans (le₆.trans le₇)))
      have hI := hI.mono (nw_mono (n := g.heap.objs.size) (le₅.trans (le₆.trans le₇)))
      exact tree_at (hI.mono le) hy3 h1 h2 h3 h4 (h5.mono le) (le _ _ hB) (le _ _ (nw_mono le₇ _ _ hW))
    exact e
theorem sc4 : ScopeOk (scopeOf P1 4) K4 Gs4 := by
  refine ⟨?_, ?_, ?_, ?_, ?_, ?_, ?_, ?_, ?_⟩ <;> decide +kernel
theorem tree_spec (G : G1 h₀ mg mb) : ∀ m, TreeSpec w h₀ m
  | 0 => fun A s F R D k a t rs ks hh hd h0 hL ha hm => absurd hm (by omega)
  | m + 1 => by
    intro A s F R D k a t rs ks hh hd h0 hL ha hm
    obtain ⟨oc, od, osl, name, qual, kV, doc, pm, an, cdv, ct, ho, hcd⟩ := G.f36
    refine enterFn (names := ["fills", "framed", "kids", "at"]) (rest := ["fill", "inner", "row", "kid"]) (vs := [.ref F, .ref R, .ref D, .int (a : Nat) t]) ho hcd G.lim h0 (by omega) (BindsTo.of_eq rfl) rfl sc4 rfl rfl ?_
    intro s' env E' O _ S
    have hh' : (A.deeper env).handled = none := hh
    have hd' : (A.deeper env).depth + m ≤ 800 := by rw [Around.deeper]; simp only; omega
    have hm' : k ≤ a + m := by omega
    have IH := tree_spec G m
    have S : St h₀ s s.heap.get? s.heap.objs.size K4 [some (.ref F), some (.ref R), some (.ref D), some (.int (a : Nat) t), none, none, none, none] [] s' := S
    with_reducible refine tree_body G IH hh' hd' O hL ha hm' S ?_
    intro d s' k ⟨n, h1, h2, h3, h4, h5⟩
    exact ⟨k, d, n, rfl, h1, h2, h3, h4, h5⟩
end
end

section
open PySem.Builtin.Str

theorem cut_eq {c : Nat} : ∀ {a b A B : List Nat}, c ∉ a → c ∉ b → a ++ c :: A = b ++ c :: B → a = b ∧ A = B
  | [], [], _, _, _, _, h => ⟨rfl, by simpa using h⟩
  | [], d :: b, _, _, _, h2, h => by simp at h; exact absurd (by rw [h.1]; simp) h2
  | d :: a, [], _, _, h1, _, h => by simp at h; exact absurd (by rw [h.1]; simp) h1
  | d :: a, e :: b, _, _, h1, h2, h => by
    simp only [List.cons_append, List.cons.injEq] at h
    obtain ⟨h3, h4⟩ := cut_eq (fun q => h1 (.tail _ q)) (fun q => h2 (.tail _ q)) h.2
    exact ⟨by rw [h.1, h3], h4⟩
theorem tl_mk (l : List Nat) : tl ⟨l.toArray⟩ = l := by simp [tl]
theorem tl_join1 (c : Nat) (p q : Str) (r : List Str) : tl (Str.join ⟨#[c]⟩ (p :: q :: r)) = tl p ++ c :: tl (Str.join ⟨#[c]⟩ (q :: r)) := by
  show tl (p ++ ⟨#[c]⟩ ++ Str.join ⟨#[c]⟩ (q :: r)) = _
  rw [tl_append, tl_append, List.append_assoc]; rfl
theorem join_inj {c : Nat} : ∀ {ps qs : List Str}, ps ≠ [] → qs ≠ [] → (∀ p ∈ ps, c ∉ tl p) → (∀ p ∈ qs, c ∉ tl p) → tl (Str.join ⟨#[c]⟩ ps) = tl (Str.join ⟨#[c]⟩ qs) → ps = qs
  | [], _, h, _, _, _, _ => absurd rfl h
  | _ :: _, [], _, h, _, _, _ => absurd rfl h
  | [p], [q], _, _, _, _, h => by rw [tl_inj (show tl p = tl q from h)]
  | [p], q :: q' :: r, _, _, h1, _, h => by
    rw [tl_join1] at h
    refine absurd ?_ (h1 p (.head _))
    rw [show tl p = _ from h]; simp
  | p :: p' :: r, [q], _, _, _, h2, h => by
    rw [tl_join1] at h
    refine absurd ?_ (h2 q (.head _))
    rw [show tl q = _ from h.symm]; simp
  | p :: p' :: r, q :: q' :: r', _, _, h1, h2, h => by
    rw [tl_join1, tl_join1] at h
    obtain ⟨e1, e2⟩ := cut_eq (h1 p (.head _)) (h2 q (.head _)) h
    rw [tl_inj e1, join_inj (by simp) (by simp) (fun x hx => h1 x (.tail _ hx)) (fun x hx => h2 x (.tail _ hx)) e2]
theorem split_ne (x y : Str) : Txt.split x y ≠ [] := by
  unfold Txt.split
  split
  · simp
  · split
    · simp
    · rw [StrLaws.partsBetween_eq]
      obtain ⟨p, r, e⟩ := StrLaws.partsFrom_ne x y.length 0 (occurrences x y 0 x.length (x.length + 1))
      rw [e]; simp
theorem split_is {x : Str} {c : Nat} {ps : List Str} (h0 : ps ≠ []) (h1 : ∀ p ∈ ps, c ∉ tl p) (h : tl x = tl (Str.join ⟨#[c]⟩ ps)) : Txt.split x ⟨#[c]⟩ = ps :=
  join_inj (split_ne _ _) h0 (StrLaws.split_free x c) h1 (by rw [StrLaws.join_split]; exact h)

/-- the signs that are written out, by their names -/
def isSp (b : Bool) (d : Nat) : Bool := d == 38 || d == 60 || d == 62 || (b && (d == 34 || d == 39))
def nm (c : Nat) : List Nat := if c = 38 then [97, 109, 112] else if c = 60 then [108, 116] else if c = 62 then [103, 116] else if c = 34 then [113, 117, 111, 116] else [35, 120, 50, 55]
theorem escCh_sp (b : Bool) : ∀ d, isSp b d = true → escCh b d = 38 :: (nm d ++ [59]) := by
  refine spc_cases ?_ ?_ ?_ ?_ ?_ fun d h1 h2 h3 h4 h5 => ?_
  iterate 5 (cases b <;> decide +kernel)
  intro h; simp [isSp, h1, h2, h3, h4, h5] at h
theorem escCh_ns (b : Bool) : ∀ d, isSp b d = false → escCh b d = [d] := by
  refine spc_cases ?_ ?_ ?_ ?_ ?_ fun d h1 h2 h3 h4 h5 => ?_
  iterate 5 (cases b <;> decide +kernel)
  intro _; simp [escCh, h1, h2, h3, h4, h5]
theorem nm_free (d : Nat) : 38 ∉ nm d ∧ 59 ∉ nm d ∧ 60 ∉ nm d ∧ 62 ∉ nm d ∧ 34 ∉ nm d ∧ 39 ∉ nm d ∧ (nm d).length ≤ 4 := by
  unfold nm
  repeat' split
  all_goals decide
theorem esc_free (b : Bool) {c : Nat} (hc : c ≠ 38) (hs : isSp b c = true) (l : List Nat) : c ∉ l.flatMap (escCh b) := by
  intro h
  obtain ⟨d, _, hd⟩ := List.mem_flatMap.mp h
  cases hq : isSp b d with
  | false =>
    rw [escCh_ns b d hq] at hd
    rw [List.mem_singleton.mp hd, hq] at hs
    cases hs
  | true =>
    rw [escCh_sp b d hq] at hd
    have n := nm_free d
    have hcs : c = 60 ∨ c = 62 ∨ c = 34 ∨ c = 39 := by
      unfold isSp at hs
      simp at hs
      omega
    simp only [List.mem_cons, List.mem_append, List.not_mem_nil, or_false] at hd
    rcases hd with hd | hd | hd
    · exact hc hd
    · rcases hcs with rfl | rfl | rfl | rfl
      · exact n.2.2.1 hd
      · exact n.2.2.2.1 hd
      · exact n.2.2.2.2.1 hd
      · exact n.2.2.2.2.2.1 hd
    · omega

/-- a text cut at the signs that are written out -/
def seg (b : Bool) : List Nat → List Nat × List (Nat × List Nat)
  | [] => ([], [])
  | d :: l => if isSp b d = true then ([], (d, (seg b l).1) :: (seg b l).2) else (d :: (seg b l).1, (seg b l).2)
def glue (r : List (Nat × List Nat)) : List Nat := r.flatMap fun p => p.1 :: p.2
theorem seg_glue (b : Bool) : ∀ l, (seg b l).1 ++ glue (seg b l).2 = l
  | [] => rfl
  | d :: l => by
    have ih := seg_glue b l
    unfold seg
    split
    · show d :: (seg b l).1 ++ glue (seg b l).2 = _
      rw [List.cons_append, ih]
    · show d :: (seg b l).1 ++ glue (seg b l).2 = _
      rw [List.cons_append, ih]
theorem seg_sp (b : Bool) : ∀ l, ∀ p ∈ (seg b l).2, isSp b p.1 = true ∧ 38 ∉ p.2
  | [], p, h => by simp [seg] at h
  | d :: l, p, h => by
    have ih := seg_sp b l
    unfold seg at h
    split at h
    · rcases List.mem_cons.mp h with rfl | h
      · rename_i hd
        refine ⟨hd, ?_⟩
        exact seg_first b l
      · exact ih p h
    · exact ih p h
where seg_first (b : Bool) : ∀ l, 38 ∉ (seg b l).1
  | [] => by simp [seg]
  | d :: l => by
    have ih := seg_first b l
    unfold seg
    split
    · simp
    · rename_i hd
      intro hm
      rcases List.mem_cons.mp hm with h | h
      · subst h; exact hd rfl
      · exact ih h
def partOf (p : Nat × List Nat) : Str := ⟨(nm p.1 ++ 59 :: p.2).toArray⟩
def partsOf (b : Bool) (l : List Nat) : List Str := ⟨(seg b l).1.toArray⟩ :: (seg b l).2.map partOf
theorem parts_free (b : Bool) (l : List Nat) : ∀ p ∈ partsOf b l, 38 ∉ tl p := by
  intro p hp
  rcases List.mem_cons.mp hp with rfl | hp
  · rw [tl_mk]; exact seg_sp.seg_first b l
  · obtain ⟨q, hq, rfl⟩ := List.mem_map.mp hp
    have h := seg_sp b l q hq
    unfold partOf
    rw [tl_mk]
    intro hm
    rcases List.mem_append.mp hm with hm | hm
    · exact (nm_free _).1 hm
    · rcases List.mem_cons.mp hm with hm | hm
      · omega
      · exact h.2 hm
theorem join_parts : ∀ (s : List Nat) (r : List (Nat × List Nat)), tl (Str.join ⟨#[38]⟩ (⟨s.toArray⟩ :: r.map partOf)) = s ++ r.flatMap fun p => 38 :: (nm p.1 ++ 59 :: p.2)
  | s, [] => by rw [List.map_nil, List.flatMap_nil, List.append_nil]; exact tl_mk s
  | s, q :: r => by
    rw [List.map_cons, tl_join1, tl_mk, List.flatMap_cons]
    have ih := join_parts (nm q.1 ++ 59 :: q.2) r
    rw [show partOf q = ⟨(nm q.1 ++ 59 :: q.2).toArray⟩ from rfl, ih]
    simp
theorem seg_esc (b : Bool) : ∀ l : List Nat, l.flatMap (escCh b) = (seg b l).1 ++ (seg b l).2.flatMap fun p => 38 :: (nm p.1 ++ 59 :: p.2)
  | [] => rfl
  | d :: l => by
    have ih := seg_esc b l
    rw [List.flatMap_cons, ih]
    cases hd : isSp b d with
    | true =>
      rw [escCh_sp b d hd]
      simp [seg, hd]
    | false =>
      rw [escCh_ns b d hd]
      simp [seg, hd]
theorem split_esc (b : Bool) (x : Str) : Txt.split (escF b x) ⟨#[38]⟩ = partsOf b (tl x) := by
  refine split_is (by simp [partsOf]) (parts_free b _) ?_
  rw [esc_ch, seg_esc]
  exact (join_parts _ _).symm

theorem not_in1 {x : Str} {c : Nat} (h : c ∉ tl x) : (!(occurrences x ⟨#[c]⟩ 0 x.length 1).isEmpty) = false := by
  cases q : (!(occurrences x ⟨#[c]⟩ 0 x.length 1).isEmpty) with
  | false => rfl
  | true =>
    obtain ⟨a, b, e⟩ := in_iff.mp q
    exact absurd (by rw [← e]; simp [tl]) h
theorem find3_cut {x : Str} {c : Nat} {pre a b : List Nat} {i : Int} (h : tl x = pre ++ a ++ c :: b) (hc : c ∉ a) (hi : i = pre.length) : Txt.find3 x ⟨#[c]⟩ i = ((pre.length + a.length : Nat) : Int) := by
  have hlen : x.length = pre.length + a.length + 1 + b.length := by
    rw [len_tl, h]; simp; omega
  have hf : fromIndex x.length i = pre.length := by
    unfold fromIndex; subst hi; rw [if_neg (by omega)]; omega
  rcases StrLaws.find3_spec x c i with ⟨_, hn⟩ | ⟨k, hk, h1, h2, h3, h4⟩
  · refine absurd ?_ (hn (pre.length + a.length) (by rw [hf]; omega) (by omega))
    refine StrLaws.getD_of_getElem? ?_
    show (tl x)[_]? = _
    rw [h, List.getElem?_append_right (by simp)]
    simp
  · rw [hk]
    rw [hf] at h1 h4
    have e3 := StrLaws.getElem?_of_getD h2 h3
    have e3 : (tl x)[k]? = some c := e3
    congr 1
    rcases Nat.lt_trichotomy k (pre.length + a.length) with hlt | he | hgt
    · rw [h, List.getElem?_append_left (by simp; omega), List.getElem?_append_right h1] at e3
      exact absurd (List.mem_of_getElem? e3) hc
    · exact he
    · refine absurd ?_ (h4 (pre.length + a.length) (by omega) hgt)
      refine StrLaws.getD_of_getElem? ?_
      show (tl x)[_]? = _
      rw [h, List.getElem?_append_right (by simp)]
      simp
theorem find_find3 (x y : Str) : Txt.find x y = Txt.find3 x y 0 := by
  unfold Txt.find Txt.find3
  have : fromIndex x.length 0 = 0 := by unfold fromIndex; simp
  rw [this]
  cases occurrences x y 0 x.length 1 <;> rfl
theorem find_cut {x : Str} {c : Nat} {a b : List Nat} (h : tl x = a ++ c :: b) (hc : c ∉ a) : Txt.find x ⟨#[c]⟩ = (a.length : Int) := by
  have e := find3_cut (pre := []) (a := a) (b := b) (i := 0) (by simpa using h) hc rfl
  rw [find_find3, e]
  simp

section
variable {prog : Program} {w : World} {A : Around} {E : Value → Shared → Prop} {h₀ : Heap} {g : Shared} {z z' : PHeap} {L : Addr} {K Gs : List Str} {vals : List (Option Value)} {ms : List (Addr × Obj)} {s : Shared} {env : Env}
theorem strsV : ∀ l : List (Str × Tok), StrsAre (strValues l) (l.map (·.1)) := strsAre_of_values
/-- a text cut at a sign -/
theorem splitS {x y : Str} {t u : Tok} {Q : Value → Shared → Prop} (S : St h₀ g z L K vals ms s) (hy : (y.length == 0) = false) (hsz : x.length ≤ sizeLine) (hsz2 : (Txt.split x y).length ≤ sizeLine)
    (h : ∀ D vs s', StrsAre vs (Txt.split x y) → St h₀ g z L K vals ((D, listOf vs.toArray 0) :: ms) s' → Q (.ref D) s') :
    wpAny (model prog w) A (call (.builtin "str.split") [.str x t, .str y u]) Q E s := by
  have key : ∀ (l : List (Str × Tok)) (k : Nat), l.map (·.1) = Txt.split x y → Q (.ref s.heap.objs.size) { s with heap := s.heap.push (listOf (strValues l).toArray 0), toks := k } := fun l k e =>
    h _ (strValues l) _ (e ▸ strsV l) ((S.alloc rfl).tok k)
  cases h1 : (decide (x.length < y.length) || decide (strKind x < strKind y)) with
  | true => exact call_meets F.slot_str_split (typeIs_str _ _ _) F.entry_str_split (F.args_str_split_2 _ _) (meets_str_split_cannot_occur x y t u h1) (key [(x, t)] s.toks (by unfold Txt.split; rw [if_pos h1]; rfl))
  | false =>
    cases h2 : (occurrences x y 0 x.length (x.length + 1)).isEmpty with
    | true => exact call_meets F.slot_str_split (typeIs_str _ _ _) F.entry_str_split (F.args_str_split_2 _ _) (meets_str_split_not_found x y t u h1 hy h2) (key [(x, t)] s.toks (by unfold Txt.split; rw [if_neg (by rw [h1]; exact Bool.false_ne_true), if_pos h2]; rfl))
    | false =>
      have e : Txt.split x y = partsBetween x (occurrences x y 0 x.length (x.length + 1)) y.length := by
        unfold Txt.split; rw [if_neg (by rw [h1]; exact Bool.false_ne_true), if_neg (by rw [h2]; exact Bool.false_ne_true)]
      rw [e] at hsz2 key
      refine call_meets F.slot_str_split (typeIs_str _ _ _) F.entry_str_split (F.args_str_split_2 _ _) (meets_str_split_sep x y t u h1 hy h2 hsz hsz2) ?_
      have k := key (numbered s.toks (partsBetween x (occurrences x y 0 x.length (x.length + 1)) y.length)) (s.toks + (partsBetween x (occurrences x y 0 x.length (x.length + 1)) y.length).length) (numbered_texts _ _)
      rw [← strsFrom_eq] at k
      exact k
/-- a list's tail -/
theorem sliceL {nx : Str} {np : Pos} {lower : Expr} {pl : Pos} {l : Addr} {vs : List Value} {n a : Nat} {ui : Tok} {Q : Value → Shared → Prop} (S : St h₀ g z L K vals ms s) (hz : s.heap.get? l = some (listOf vs.toArray n)) (hsz : vs.length ≤ sizeLine)
    (h : ∀ D s', St h₀ g z L K vals ((D, listOf (vs.drop a).toArray 0) :: ms) s' → Q (.ref D) s') :
    wpAny (model prog w) A (subscriptTail (.Name nx np) (.Slice (some lower) none none pl) (.ref l) (.ref s.heap.objs.size)) Q E { s with heap := s.heap.push { cls := .type "slice", data := .fields #[.int (a : Nat) ui, .none, .none] } } := by
  have hl : s.heap.IsList l vs.toArray := ⟨_, hz, rfl, _, rfl⟩
  refine slice_listK (lo := some (a : Nat)) (hi := none) hl (by constructor) (by constructor) ?_ (by with_unfolding_all rfl) (fun _ => rfl) (by simpa using hsz)
  have S1 := (S.push { cls := .type "slice", data := .fields #[.int (a : Nat) ui, .none, .none] }).alloc (o := listOf (vs.drop a).toArray 0) rfl
  have e : slicePick vs.toArray (some (a : Int)) none none = (vs.drop a).toArray := by rw [slicePick_from']
  rw [e]
  have := h _ _ S1
  rw [Heap.size_push] at this
  exact this
end
end

section
open PySem.Builtin.Str

abbrev K6 : List Str := ["raw", "quoted", "table", "parts", "made", "part", "end"]
abbrev Gs6 : List Str := []
section
variable {w : World} {A : Around} {E : Value → Shared → Prop} {h₀ : Heap} {mg mb : Str → Option Value} {g : Shared} {z z' : PHeap} {L : Addr} {K Gs : List Str} {vals : List (Option Value)} {ms : List (Addr × Obj)} {s : Shared} {env : Env}

def DispQ (w : World) (D : Addr) (Q : Value → Shared → Prop) (vs : List (Value × Value)) (s₁ : Shared) : Prop :=
  ∃ kvs, Carries (strKind P1 w) vs kvs ∧ s₁.heap.DictOf (strKind P1 w) D [] ∧ ∀ h', h'.DictOf (strKind P1 w) D (merged [] kvs) → Heap.SameBut D s₁.heap h' → Q (.ref D) { s₁ with heap := h', toks := s₁.toks + vs.length }
theorem dispIn' {keys : List (Option Expr)} {values : List Expr} {pos : Pos} {Q : Value → Shared → Prop} (S : St h₀ g z L K vals ms s)
    (hall : keys.all (·.isSome) = true) (hl : keys.length = values.length) (h0 : keys ≠ []) (hlen : keys.length ≤ 15)
    (h : ∀ D s', St h₀ g z L K vals ((D, { cls := .type "dict", data := .dict #[] }) :: ms) s' →
      wpAny (model P1 w) A (evalPairs (pairTrees keys values env pos)) (fun vs s₁ => DispQ w D Q vs s₁) E s') :
    wpAny (model P1 w) A (eval (.Dict keys values pos) env) Q E s := dispIn S hall hl h0 hlen h
theorem dispOut' {D : Addr} {vs : List (Value × Value)} {Q : Value → Shared → Prop} (S : St h₀ g z L K vals ((D, { cls := .type "dict", data := .dict #[] }) :: ms) s) (hk : allStrKeys vs = true) (hn : ((strPairs vs).map (·.1)).Nodup)
    (h : ∀ o s', o.IsDictOf (strKind P1 w) (strPairs vs) → St h₀ g z L K vals ((D, o) :: ms) s' → Q (.ref D) s') :
    DispQ w D Q vs s := dispOut S hk hn h

/-- the table of the plain signs -/
def TabOk (w : World) (b : Bool) (o : Obj) : Prop := ∃ kvs, o.IsDictOf (strKind P1 w) kvs ∧ ∀ c, isSp b c = true → ∃ t, valueAt kvs ⟨(nm c).toArray⟩ = some (.str ⟨#[c]⟩ t)

set_option maxHeartbeats 8000000 in
theorem plain_tab (O : EnvOk env L K6 Gs6) {raw : Str} {t : Tok} {b : Bool} {Q : Flow → Shared → Prop}
    (S : St h₀ g z L K6 [some (.str raw t), some (.bool b), none, none, none, none, none] [] s)
    (h : ∀ D o s', TabOk w b o → St h₀ g z L K6 [some (.str raw t), some (.bool b), some (.ref D), none, none, none, none] [(D, o)] s' →
      wpAny (model P1 w) A (execs ((bodyOf P1 6).drop 2) env) Q E s') :
    wpAny (model P1 w) A (execs (bodyOf P1 6) env) Q E s := by
  refine exC ?_
  repeat walk_at "zz"
  with_reducible rename St _ _ _ _ _ _ _ _ => S
  refine dispIn' S rfl rfl (by simp) (by decide) ?_
  clear S; intro D s S
  refine pairTrees_cons_walk ?_
  repeat walk_at "zz"
  refine pairTrees_cons_walk ?_
  repeat walk_at "zz"
  refine pairTrees_cons_walk ?_
  repeat walk_at "zz"
  refine pairTrees_nil_walk ?_
  with_reducible rename St _ _ _ _ _ _ _ _ => S
  refine dispOut' S ?hk ?hn ?_
  case hk => rfl
  case hn => simp only [strPairs, List.map_cons, List.map_nil]; decide +kernel
  clear S; intro o s ho S
  repeat walk_at "zz"
  have e1 : Str.ofString "amp" = ⟨#[97, 109, 112]⟩ := by decide +kernel
  have e2 : Str.ofString "lt" = ⟨#[108, 116]⟩ := by decide +kernel
  have e3 : Str.ofString "gt" = ⟨#[103, 116]⟩ := by decide +kernel
  have e4 : Str.ofString "quot" = ⟨#[113, 117, 111, 116]⟩ := by decide +kernel
  have e5 : Str.ofString "#x27" = ⟨#[35, 120, 50, 55]⟩ := by decide +kernel
  refine exJ (fun s' => ∃ o, TabOk w b o ∧ St h₀ g z L K6 [some (.str raw t), some (.bool b), some (.ref D), none, none, none, none] [(D, o)] s') ?_ ?_
  · intro Q' hQ'
    repeat walk_at "zz"
    refine iteB ?_ ?_
    · intro hb
      refine exC ?_
      repeat walk_at "zz"
      with_reducible rename St _ _ _ _ _ _ _ _ => S
      refine putD2 (pre := []) S ho (by simp only [strPairs, sizeLine_eq, List.length_cons, List.length_nil]; decide) ?_
      clear S; intro o2 s ho2 S
      repeat walk_at "zz"
      refine exC ?_
      repeat walk_at "zz"
      with_reducible rename St _ _ _ _ _ _ _ _ => S
      refine putD2 (pre := []) S ho2 ?hsz ?_
      case hsz => simp [strPairs, e1, e2, e3, e4, sizeLine_eq, stored]
      clear S; intro o3 s ho3 S
      repeat walk_at "z"
      with_reducible rename St _ _ _ _ _ _ _ _ => S
      refine hQ' _ ⟨o3, ⟨_, ho3, ?_⟩, S⟩
      simp only [strPairs, e1, e2, e3, e4, e5, e38, e60, e62, e34, e39]
      refine spc_cases ?_ ?_ ?_ ?_ ?_ fun d h1 h2 h3 h4 h5 => ?_
      iterate 5 exact fun _ => ⟨_, rfl⟩
      intro h; simp [isSp, h1, h2, h3, h4, h5] at h
    · intro hb
      repeat walk_at "z"
      with_reducible rename St _ _ _ _ _ _ _ _ => S
      refine hQ' _ ⟨o, ⟨_, ho, ?_⟩, S⟩
      simp only [strPairs, e1, e2, e3, e38, e60, e62]
      refine spc_cases ?_ ?_ ?_ ?_ ?_ fun d h1 h2 h3 h4 h5 => ?_
      iterate 3 exact fun _ => ⟨_, rfl⟩
      iterate 2 (intro h; rw [hb] at h; simp [isSp] at h)
      intro h; simp [isSp, h1, h2, h3, h4, h5] at h
  · intro s hJ
    obtain ⟨o, ho, S⟩ := hJ
    exact h _ _ _ ho S
end
end

section
open PySem.Builtin.Str

theorem ifF {c : Bool} {P R : Prop} (hc : c = false) (h : R) : if c = true then P else R := by rw [hc]; exact h
theorem ifT {c : Bool} {P R : Prop} (hc : c = true) (h : P) : if c = true then P else R := by rw [hc]; exact h
section
variable {w : World} {A : Around} {E : Value → Shared → Prop} {h₀ : Heap} {mg mb : Str → Option Value} {g : Shared} {z z' : PHeap} {L : Addr} {K Gs : List Str} {vals : List (Option Value)} {ms : List (Addr × Obj)} {s : Shared} {env : Env}

set_option maxHeartbeats 8000000 in
theorem plain_test (O : EnvOk env L K6 Gs6) {x : Str} {t : Tok} {b : Bool} {Q : Flow → Shared → Prop} {D : Addr} {o : Obj}
    (S : St h₀ g z L K6 [some (.str (escF b x) t), some (.bool b), some (.ref D), none, none, none, none] [(D, o)] s)
    (h : ∀ s', St h₀ g z L K6 [some (.str (escF b x) t), some (.bool b), some (.ref D), none, none, none, none] [(D, o)] s' →
      wpAny (model P1 w) A (execs ((bodyOf P1 6).drop 3) env) Q E s') :
    wpAny (model P1 w) A (execs ((bodyOf P1 6).drop 2) env) Q E s := by
  have n60 : (!(occurrences (escF b x) (Str.ofString "<") 0 (escF b x).length 1).isEmpty) = false := by
    rw [e60]; exact not_in1 (by rw [esc_ch]; exact esc_free b (by decide) (by cases b <;> decide) _)
  have n62 : (!(occurrences (escF b x) (Str.ofString ">") 0 (escF b x).length 1).isEmpty) = false := by
    rw [e62]; exact not_in1 (by rw [esc_ch]; exact esc_free b (by decide) (by cases b <;> decide) _)
  generalize hraw : escF b x = raw at *
  refine exC ?_
  repeat walk_at "zz"
  with_reducible refine ifF n60 ?_
  repeat walk_at "zz"
  with_reducible refine ifF n62 ?_
  repeat walk_at "zz"
  refine iteB ?_ ?_
  · intro hb
    have n34 : (!(occurrences raw (Str.ofString "\"") 0 raw.length 1).isEmpty) = false := by
      rw [e34]; exact not_in1 (by rw [← hraw, esc_ch]; exact esc_free b (by decide) (by rw [hb]; decide) _)
    have n39 : (!(occurrences raw (Str.ofString "'") 0 raw.length 1).isEmpty) = false := by
      rw [e39]; exact not_in1 (by rw [← hraw, esc_ch]; exact esc_free b (by decide) (by rw [hb]; decide) _)
    repeat walk_at "zz"
    with_reducible refine ifF n34 ?_
    repeat walk_at "zz"
    with_reducible refine ifF n39 ?_
    repeat walk_at "zz"
    with_reducible rename St _ _ _ _ _ _ _ _ => S
    exact h _ S
  · intro hb
    repeat walk_at "zz"
    with_reducible rename St _ _ _ _ _ _ _ _ => S
    exact h _ S

theorem seg_take {b : Bool} {l : List Nat} {i : Nat} {p : Nat × List Nat} (h : (seg b l).2[i]? = some p) : glue ((seg b l).2.take (i + 1)) = glue ((seg b l).2.take i) ++ p.1 :: p.2 := by
  rw [List.take_add_one, h]
  simp [glue]
theorem parts_len (b : Bool) : ∀ l : List Nat, (seg b l).2.length ≤ l.length
  | [] => Nat.le_refl _
  | d :: l => by
    have ih := parts_len b l
    unfold seg
    split
    · simp only [List.length_cons]; omega
    · simp only [List.length_cons]; omega
theorem glue_le (b : Bool) (l : List Nat) (i : Nat) : (seg b l).1.length + (glue ((seg b l).2.take i)).length ≤ l.length := by
  have h := seg_glue b l
  have e : glue (seg b l).2 = glue ((seg b l).2.take i) ++ glue ((seg b l).2.drop i) := by
    unfold glue
    rw [← List.flatMap_append, List.take_append_drop]
  rw [e] at h
  have := congrArg List.length h
  simp only [List.length_append] at this
  omega

set_option maxHeartbeats 8000000 in
theorem plain_rest (hh : A.handled = none) (O : EnvOk env L K6 Gs6) {x : Str} {t : Tok} {b : Bool} {Q : Flow → Shared → Prop} {D : Addr} {o : Obj} (hlim : h₀.NoLimit)
    (hx : x.length + 5 * sp x ≤ 1048576) (ho : TabOk w b o)
    (S : St h₀ g z L K6 [some (.str (escF b x) t), some (.bool b), some (.ref D), none, none, none, none] [(D, o)] s)
    (h : ∀ t' s', Keeps g s' → Q (.ret (.str x t')) s') :
    wpAny (model P1 w) A (execs ((bodyOf P1 6).drop 3) env) Q E s := by
  obtain ⟨kvs, ho, htab⟩ := ho
  have hlen := esc_len b x
  have hsplit : Txt.split (escF b x) (Str.ofString "&") = partsOf b (tl x) := by rw [e38]; exact split_esc b x
  have hpl := parts_len b (tl x)
  have hpl2 : (partsOf b (tl x)).length ≤ x.length + 1 := by
    rw [len_tl x]; simp only [partsOf, List.length_cons, List.length_map]; omega
  refine exC ?_
  repeat walk_at "zz"
  with_reducible rename St _ _ _ _ _ _ _ _ => S
  refine splitS S (by rw [e38]; rfl) (by rw [sizeLine_eq]; omega) (by rw [hsplit, sizeLine_eq]; omega) ?_
  clear S; intro T vs s hvs S
  rw [hsplit] at hvs
  obtain ⟨z1, le1, hzT, _, S⟩ := S.freeze
  repeat walk_at "zz"
  refine exC ?_
  repeat walk_at "zz"
  with_reducible rename St _ _ _ _ _ _ _ _ => S
  obtain ⟨x0, t0, hx0, hy0⟩ := strs_get hvs (i := 0) (by simp [partsOf])
  have hx0' : x0 = ⟨(seg b (tl x)).1.toArray⟩ := by simpa [partsOf] using hy0.symm
  refine itemZ (x := .str x0 t0) (isL S hzT) (by omega) (by omega) (by simpa using hx0) ?_
  repeat walk_at "zz"
  refine exC ?_
  repeat walk_at "zz"
  with_reducible rename St _ _ _ _ _ _ _ _ => S
  have hsz1 : vs.length ≤ sizeLine := by rw [hvs.length, sizeLine_eq]; omega
  refine sliceL (a := 1) S (S.keep _ _ hzT) hsz1 ?_
  clear S; intro T2 s S
  obtain ⟨z2, le2, hzT2, _, S⟩ := S.freeze
  obtain ⟨ws, hws, hzT2⟩ : ∃ ws, StrsAre ws ((seg b (tl x)).2.map partOf) ∧ z2 T2 = some (listOf ws.toArray 0) := by
    refine ⟨vs.drop 1, ?_, hzT2⟩
    cases hvs with
    | cons x t h => exact h
  have e59 : Str.ofString ";" = ⟨#[59]⟩ := by decide +kernel
  refine forL S hh hzT2 (fun i z' vals' ms' => ∃ (m : Str) (tm : Tok) (p en : Option Value), vals' = [some (.str (escF b x) t), some (.bool b), some (.ref D), some (.ref T), some (.str m tm), p, en] ∧ ms' = [(D, o)] ∧
      tl m = (seg b (tl x)).1 ++ glue ((seg b (tl x)).2.take i)) ⟨_, _, _, _, rfl, rfl, by rw [hx0', tl_mk]; simp [glue]⟩ ?_ ?_
  · clear S
    intro E' i v z₁ vals' I oI ms' s hv le hJ S
    obtain ⟨m, tm, p, en, rfl, rfl, hm⟩ := hJ
    obtain ⟨px, tp, rfl, hp⟩ := StrsAre.at hws hv
    obtain ⟨q, hq, rfl⟩ : ∃ q, (seg b (tl x)).2[i]? = some q ∧ partOf q = px := by simpa using hp
    obtain ⟨hqs, _⟩ := seg_sp b _ q (List.mem_of_getElem? hq)
    obtain ⟨tq, hval⟩ := htab _ hqs
    have hin : (!(valueAt kvs ⟨(nm q.1).toArray⟩).isSome) = false := by rw [hval]; rfl
    have htl : tl (partOf q) = nm q.1 ++ 59 :: q.2 := tl_mk _
    have hf : Txt.find (partOf q) (Str.ofString ";") = ((nm q.1).length : Int) := by rw [e59]; exact find_cut htl (nm_free _).2.1
    have hk : Txt.slice (partOf q) none (some ((nm q.1).length : Int)) = ⟨(nm q.1).toArray⟩ := by
      apply tl_inj; rw [sl_to, htl, tl_mk, List.take_left]
    have hk2 : Txt.slice (partOf q) (some ((nm q.1).length + 1 : Int)) none = ⟨q.2.toArray⟩ := by
      apply tl_inj; rw [show ((nm q.1).length + 1 : Int) = ((nm q.1 ++ [59]).length : Nat) from by simp, sl_from, htl, tl_mk, show nm q.1 ++ 59 :: q.2 = nm q.1 ++ [59] ++ q.2 from by simp, List.drop_left]
    have hgl := glue_le b (tl x) (i + 1)
    rw [seg_take hq] at hgl
    have hml := len_tl m
    rw [hm] at hml
    rw [← len_tl] at hgl
    simp only [List.length_append, List.length_cons] at hgl hml
    have hpl3 : (partOf q).length ≤ sizeLine := by
      rw [len_tl, htl, sizeLine_eq]; have := (nm_free q.1).2.2.2.2.2.2; simp; omega
    refine wpAny_assign_Name ?_
    repeat walk_at "zz"
    refine exC ?_
    repeat walk_at "zz"
    with_reducible rename St _ _ _ _ _ _ _ _ => S
    rw [hf] at S
    refine exC ?_
    repeat walk_at "zz"
    with_reducible refine ifF (decide_eq_false (by omega)) ?_
    repeat walk_at "zz"
    with_reducible rename St _ _ _ _ _ _ _ _ => S
    refine sliceNS S hpl3 ?_
    clear S; intro t9 s S
    rw [hk]
    repeat walk_at "zz"
    with_reducible rename St _ _ _ _ _ _ _ _ => S
    refine notInD S hlim (.tail _ (.head _)) ho ?_
    clear S; intro s S
    repeat walk_at "zz"
    with_reducible refine ifF hin ?_
    repeat walk_at "zz"
    refine exC ?_
    repeat walk_at "zz"
    with_reducible rename St _ _ _ _ _ _ _ _ => S
    refine sliceNS S hpl3 ?_
    clear S; intro t10 s S
    rw [hk]
    repeat walk_at "zz"
    with_reducible rename St _ _ _ _ _ _ _ _ => S
    refine itemD S (.tail _ (.head _)) ho hval ?_
    clear S; intro s S
    repeat walk_at "zz"
    with_reducible rename St _ _ _ _ _ _ _ _ => S
    refine addS S (by rw [sizeLine_eq]; show m.length + 1 ≤ _; omega) ?_
    clear S; intro t11 s S
    repeat walk_at "zz"
    with_reducible rename St _ _ _ _ _ _ _ _ => S
    refine sliceSN S hpl3 ?_
    clear S; intro t12 s S
    rw [hk2]
    repeat walk_at "zz"
    with_reducible rename St _ _ _ _ _ _ _ _ => S
    refine addS S (by rw [sizeLine_eq, Str.length_append]; show m.length + 1 + (q.2.toArray).size ≤ _; rw [List.size_toArray]; omega) ?_
    clear S; intro t13 s S
    repeat walk_at "zz"
    with_reducible rename St _ _ _ _ _ _ _ _ => S
    refine ⟨_, _, _, Le.refl _, ⟨_, _, _, _, rfl, rfl, ?_⟩, S⟩
    rw [tl_append, tl_append, hm, tl_mk q.2, seg_take hq]
    simp [tl]
  · clear S
    intro z₁ vals' ms' s le hJ S
    obtain ⟨m, tm, p, en, rfl, rfl, hm⟩ := hJ
    have hmx : m = x := by
      apply tl_inj
      rw [hm, hws.length, List.length_map, List.take_length, seg_glue]
    subst hmx
    repeat walk_at "z"
    with_reducible rename St _ _ _ _ _ _ _ _ => S
    exact h _ _ S.keeps
theorem sc6 : ScopeOk (scopeOf P1 6) K6 Gs6 := by
  refine ⟨?_, ?_, ?_, ?_, ?_, ?_, ?_, ?_, ?_⟩ <;> decide +kernel
theorem plain_spec (G : G1 h₀ mg mb) {x : Str} {t : Tok} {b : Bool} (hh : A.handled = none) (hd : A.depth ≤ 900) (h0 : Le h₀.get? s.heap.get?) (hx : x.length + 5 * sp x ≤ 1048576) :
    codeAny (model P1 w) A (.call (.ref 50) ⟨[.str (escF b x) t, .bool b], []⟩) (fun r s' => ∃ v, r = .ok (.ret v) ∧ Keeps s s' ∧ ∃ t', v = .str x t') s := by
  obtain ⟨oc, od, osl, name, qual, kV, doc, pm, an, cdv, ct, ho, hcd⟩ := G.f50
  refine enterFn (names := ["raw", "quoted"]) (rest := ["table", "parts", "made", "part", "end"]) (vs := [.str (escF b x) t, .bool b]) ho hcd G.lim h0 (by omega) (BindsTo.of_eq rfl) rfl sc6 rfl rfl ?_
  intro s' env E' O _ S
  have S : St h₀ s s.heap.get? s.heap.objs.size K6 [some (.str (escF b x) t), some (.bool b), none, none, none, none, none] [] s' := S
  have hh' : (A.deeper env).handled = none := hh
  with_reducible refine plain_tab O S ?_
  intro D o s1 ho S1
  with_reducible refine plain_test O S1 ?_
  intro s2 S2
  with_reducible refine plain_rest hh' O G.lim hx ho S2 ?_
  intro t' s' k
  exact ⟨k, t', rfl⟩
end
end

section
open PySem.Builtin.Str
section
variable {w : World} {A : Around} {E : Value → Shared → Prop} {h₀ : Heap} {g : Shared} {z z' : PHeap} {L : Addr} {K Gs : List Str} {vals : List (Option Value)} {ms : List (Addr × Obj)} {s : Shared} {env : Env}
theorem notInT {l : Addr} {vs : List Value} {ys : List Str} {k : Str} {t : Tok} {Q : Value → Shared → Prop} (hl : s.heap.IsTuple l vs.toArray) (hi : StrsAre vs ys)
    (h : Q (.bool (!(ys.any (· == k)))) s) : wpAny (model P1 w) A (compareOp .NotIn (.str k t) (.ref l)) Q E s :=
  PyProof.Rows.notin_tuple_strs hl hi h
theorem isNoneS {x : Str} {t : Tok} {Q : Value → Shared → Prop} (h : Q (.bool false) s) : wpAny (model P1 w) A (compareOp .Is (.str x t) .none) Q E s := wpAny_is_other rfl (fun e => nomatch e) h
theorem isNoneR {d : Addr} {Q : Value → Shared → Prop} (h : Q (.bool false) s) : wpAny (model P1 w) A (compareOp .Is (.ref d) .none) Q E s := wpAny_is_other rfl (fun e => nomatch e) h
theorem neS {x y : Str} {t u : Tok} {Q : Value → Shared → Prop} (e : tl x = tl y) (h : Q (.bool false) s) : wpAny (model P1 w) A (compareOp .NotEq (.str x t) (.str y u)) Q E s :=
  P.ne_str (by rw [show x.cps.toList = y.cps.toList from e, bne_self_eq_false]; exact h)
theorem findS3 {x y : Str} {t u v : Tok} {i : Int} {Q : Value → Shared → Prop} (S : St h₀ g z L K vals ms s) (h : ∀ t' s', St h₀ g z L K vals ms s' → Q (.int (Txt.find3 x y i) t') s') : wpAny (model P1 w) A (call (.builtin "str.find") [.str x t, .str y u, .int i v]) Q E s :=
  SC.find3 (h _ _ (S.tok _))
theorem sl_cut {x : Str} {p m q : List Nat} {i j : Int} (h : tl x = p ++ m ++ q) (hi : i = p.length) (hj : j = i + m.length) : Txt.slice x (some i) (some j) = ⟨m.toArray⟩ := by
  subst hi
  apply tl_inj
  rw [hj, show ((p.length : Int) + (m.length : Int)) = ((p.length + m.length : Nat) : Int) from by omega, sl_ss (by omega), tl_mk m, h, List.append_assoc, List.drop_left, show p.length + m.length - p.length = m.length from by omega, List.take_left]
end
end

section
open PySem.Builtin.Str

abbrev K7 : List Str := ["page", "at", "name", "end", "inner", "stop", "second", "whole", "kids", "here", "turn", "less", "text", "kid"]
abbrev Gs7 : List Str := ["_law_plain", "_law_read", "len", "range"]
/-- an element's beginning, cut up -/
structure Head (page : Str) (pre : List Nat) (c : Nat) (i s2 : Str) (rest : List Nat) : Prop where
  eq : tl page = pre ++ ([60, c, 32, 112, 61, 34] ++ (tl (escF true i) ++ ([34, 32, 113, 61, 39] ++ (tl (escF true s2) ++ ([39, 62] ++ rest)))))
  c : c = 97 ∨ c = 102
  len : page.length ≤ 1048576
section
variable {w : World} {A : Around} {E : Value → Shared → Prop} {h₀ : Heap} {mg mb : Str → Option Value} {g : Shared} {z z' : PHeap} {L : Addr} {K Gs : List Str} {vals : List (Option Value)} {ms : List (Addr × Obj)} {s : Shared} {env : Env}

set_option maxHeartbeats 8000000 in
theorem read_a (O : EnvOk env L K7 Gs7) {page : Str} {t ta : Tok} {pre rest : List Nat} {c : Nat} {i s2 : Str} {Q : Flow → Shared → Prop} (H : Head page pre c i s2 rest)
    (S : St h₀ g z L K7 [some (.str page t), some (.int (pre.length : Nat) ta), none, none, none, none, none, none, none, none, none, none, none, none] [] s)
    (h : ∀ tn s', St h₀ g z L K7 [some (.str page t), some (.int (pre.length : Nat) ta), some (.str ⟨#[c]⟩ tn), none, none, none, none, none, none, none, none, none, none, none] [] s' →
      wpAny (model P1 w) A (execs ((bodyOf P1 7).drop 2) env) Q E s') :
    wpAny (model P1 w) A (execs (bodyOf P1 7) env) Q E s := by
  have hsz : page.length ≤ sizeLine := by have := H.len; rw [sizeLine_eq]; omega
  have hs1 : Txt.slice page (some ((pre.length : Nat) + 1 : Int)) (some ((pre.length : Nat) + 2 : Int)) = ⟨#[c]⟩ :=
    sl_cut (p := pre ++ [60]) (m := [c]) (by rw [H.eq]; simp; rfl) (by simp) (by simp; omega)
  have hs2 : Txt.slice page (some ((pre.length : Nat) : Int)) (some ((pre.length : Nat) + 1 : Int)) = ⟨#[60]⟩ :=
    sl_cut (p := pre) (m := [60]) (by rw [H.eq]; simp; rfl) rfl (by simp)
  have hs3 : Txt.slice page (some ((pre.length : Nat) + 2 : Int)) (some ((pre.length : Nat) + 6 : Int)) = ⟨#[32, 112, 61, 34]⟩ :=
    sl_cut (p := pre ++ [60, c]) (m := [32, 112, 61, 34]) (by rw [H.eq]; simp; rfl) (by simp) (by simp; omega)
  refine exC ?_
  repeat walk_at "zz"
  with_reducible rename St _ _ _ _ _ _ _ _ => S
  refine sliceSS S hsz ?_
  clear S; intro t1 s S
  rw [hs1]
  repeat walk_at "zz"
  refine exC ?_
  repeat walk_at "zz"
  with_reducible rename St _ _ _ _ _ _ _ _ => S
  refine sliceSS S hsz ?_
  clear S; intro t2 s S
  rw [hs2]
  repeat walk_at "zz"
  refine neS (by rw [e60]) ?_
  repeat walk_at "zz"
  with_reducible rename St _ _ _ _ _ _ _ _ => S
  refine newT S ?hsz ?_
  case hsz => exact Nat.le_of_ble_eq_true rfl
  clear S; intro T s S
  have hT := isTm S (.head _)
  replace S := S.drop
  have hcf : (!([Str.ofString "a", Str.ofString "f"].any (· == (⟨#[c]⟩ : Str)))) = false := by
    rcases H.c with rfl | rfl <;> decide +kernel
  refine notInT hT (.cons _ _ (.cons _ _ .nil)) ?_
  repeat walk_at "zz"
  with_reducible refine ifF hcf ?_
  repeat walk_at "zz"
  with_reducible rename St _ _ _ _ _ _ _ _ => S
  refine sliceSS S hsz ?_
  clear S; intro t3 s S
  rw [hs3]
  repeat walk_at "zz"
  refine neS (by decide +kernel) ?_
  repeat walk_at "zz"
  with_reducible rename St _ _ _ _ _ _ _ _ => S
  exact h _ _ S

set_option maxHeartbeats 8000000 in
theorem read_b (G : G1 h₀ mg mb) (hh : A.handled = none) (hd : A.depth ≤ 800) (O : EnvOk env L K7 Gs7) {page : Str} {t ta tn : Tok} {pre rest : List Nat} {c : Nat} {i s2 : Str} {Q : Flow → Shared → Prop} (H : Head page pre c i s2 rest) (hi : i.length + 5 * sp i ≤ 1048576)
    (S : St h₀ g z L K7 [some (.str page t), some (.int (pre.length : Nat) ta), some (.str ⟨#[c]⟩ tn), none, none, none, none, none, none, none, none, none, none, none] [] s)
    (h : ∀ z' t2 t3 s', Le z z' → St h₀ g z' L K7 [some (.str page t), some (.int (pre.length : Nat) ta), some (.str ⟨#[c]⟩ tn), some (.int ((pre.length + 6 + (escF true i).length : Nat) : Int) t2), some (.str i t3), none, none, none, none, none, none, none, none, none] [] s' →
      wpAny (model P1 w) A (execs ((bodyOf P1 7).drop 5) env) Q E s') :
    wpAny (model P1 w) A (execs ((bodyOf P1 7).drop 2) env) Q E s := by
  have hsz : page.length ≤ sizeLine := by have := H.len; rw [sizeLine_eq]; omega
  have n34 : 34 ∉ tl (escF true i) := by rw [esc_ch]; exact esc_free true (by decide) (by decide) _
  have hf : Txt.find3 page (Str.ofString "\"") ((pre.length : Nat) + 6 : Int) = ((pre.length + 6 + (escF true i).length : Nat) : Int) := by
    rw [e34, find3_cut (pre := pre ++ [60, c, 32, 112, 61, 34]) (a := tl (escF true i)) (b := [32, 113, 61, 39] ++ (tl (escF true s2) ++ ([39, 62] ++ rest))) (by rw [H.eq]; simp) n34 (by simp), ← len_tl]
    simp
  have hs1 : Txt.slice page (some ((pre.length + 6 + (escF true i).length : Nat) : Int)) (some ((pre.length + 6 + (escF true i).length : Nat) + 5 : Int)) = ⟨#[34, 32, 113, 61, 39]⟩ :=
    sl_cut (p := pre ++ ([60, c, 32, 112, 61, 34] ++ tl (escF true i))) (m := [34, 32, 113, 61, 39]) (by rw [H.eq]; simp; rfl) (by rw [len_tl]; simp; omega) (by simp)
  have hs2 : Txt.slice page (some ((pre.length : Nat) + 6 : Int)) (some ((pre.length + 6 + (escF true i).length : Nat) : Int)) = escF true i := by
    rw [sl_cut (p := pre ++ [60, c, 32, 112, 61, 34]) (m := tl (escF true i)) (q := [34, 32, 113, 61, 39] ++ (tl (escF true s2) ++ ([39, 62] ++ rest))) (by rw [H.eq]; simp) (by simp) (by rw [← len_tl]; omega)]
  refine exC ?_
  repeat walk_at "zz"
  with_reducible rename St _ _ _ _ _ _ _ _ => S
  refine findS3 S ?_
  clear S; intro t1 s S
  rw [hf]
  repeat walk_at "zz"
  refine exC ?_
  repeat walk_at "zz"
  with_reducible refine ifF (decide_eq_false (by omega)) ?_
  repeat walk_at "zz"
  with_reducible rename St _ _ _ _ _ _ _ _ => S
  refine sliceSS S hsz ?_
  clear S; intro t2 s S
  rw [hs1]
  repeat walk_at "zz"
  refine neS (by decide +kernel) ?_
  repeat walk_at "zz"
  refine exC ?_
  repeat walk_at "zz"
  with_reducible rename St _ _ _ _ _ _ _ _ => S
  refine ldG S O (by decide) G.gn G.g50 ?_
  obtain ⟨oc', od, osl, name, qual, kV, doc, pm, an, cdv, ct, ho, hcd⟩ := G.f50
  refine callWith_fn ho rfl ?_ rfl
  repeat walk_at "zz"
  with_reducible rename St _ _ _ _ _ _ _ _ => S
  refine sliceSS S hsz ?_
  clear S; intro t3 s S
  rw [hs2]
  repeat walk_at "zz"
  with_reducible rename St _ _ _ _ _ _ _ _ => S
  refine ⟨S.base, useSpec S (plain_spec G hh (by omega) S.base hi) ?_⟩
  intro v z₂ s₂ le₂ len₂ S₂ hv₂
  obtain ⟨tw, rfl⟩ := hv₂
  clear S
  repeat walk_at "zz"
  with_reducible rename St _ _ _ _ _ _ _ _ => S
  exact h _ _ _ _ le₂ S

set_option maxHeartbeats 8000000 in
theorem read_c (G : G1 h₀ mg mb) (hh : A.handled = none) (hd : A.depth ≤ 800) (O : EnvOk env L K7 Gs7) {page : Str} {t ta tn t2 t3 : Tok} {pre rest : List Nat} {c : Nat} {i s2 : Str} {Q : Flow → Shared → Prop} (H : Head page pre c i s2 rest) (hi : s2.length + 5 * sp s2 ≤ 1048576)
    (S : St h₀ g z L K7 [some (.str page t), some (.int (pre.length : Nat) ta), some (.str ⟨#[c]⟩ tn), some (.int ((pre.length + 6 + (escF true i).length : Nat) : Int) t2), some (.str i t3), none, none, none, none, none, none, none, none, none] [] s)
    (h : ∀ z' t4 t5 s', Le z z' → St h₀ g z' L K7 [some (.str page t), some (.int (pre.length : Nat) ta), some (.str ⟨#[c]⟩ tn), some (.int ((pre.length + 6 + (escF true i).length : Nat) : Int) t2), some (.str i t3), some (.int ((pre.length + 6 + (escF true i).length + 5 + (escF true s2).length : Nat) : Int) t4), some (.str s2 t5), none, none, none, none, none, none, none] [] s' →
      wpAny (model P1 w) A (execs ((bodyOf P1 7).drop 9) env) Q E s') :
    wpAny (model P1 w) A (execs ((bodyOf P1 7).drop 5) env) Q E s := by
  have hsz : page.length ≤ sizeLine := by have := H.len; rw [sizeLine_eq]; omega
  have n39 : 39 ∉ tl (escF true s2) := by rw [esc_ch]; exact esc_free true (by decide) (by decide) _
  have hf : Txt.find3 page (Str.ofString "'") ((pre.length + 6 + (escF true i).length : Nat) + 5 : Int) = ((pre.length + 6 + (escF true i).length + 5 + (escF true s2).length : Nat) : Int) := by
    rw [e39, find3_cut (pre := pre ++ ([60, c, 32, 112, 61, 34] ++ (tl (escF true i) ++ [34, 32, 113, 61, 39]))) (a := tl (escF true s2)) (b := 62 :: rest) (by rw [H.eq]; simp) n39 (by rw [len_tl]; simp; omega), len_tl, len_tl]
    simp; omega
  have hs1 : Txt.slice page (some ((pre.length + 6 + (escF true i).length + 5 + (escF true s2).length : Nat) : Int)) (some ((pre.length + 6 + (escF true i).length + 5 + (escF true s2).length : Nat) + 2 : Int)) = ⟨#[39, 62]⟩ :=
    sl_cut (p := pre ++ ([60, c, 32, 112, 61, 34] ++ (tl (escF true i) ++ ([34, 32, 113, 61, 39] ++ tl (escF true s2))))) (m := [39, 62]) (by rw [H.eq]; simp; rfl) (by rw [len_tl, len_tl]; simp; omega) (by simp)
  have hs2 : Txt.slice page (some ((pre.length + 6 + (escF true i).length : Nat) + 5 : Int)) (some ((pre.length + 6 + (escF true i).length + 5 + (escF true s2).length : Nat) : Int)) = escF true s2 := by
    rw [sl_cut (p := pre ++ ([60, c, 32, 112, 61, 34] ++ (tl (escF true i) ++ [34, 32, 113, 61, 39]))) (m := tl (escF true s2)) (q := [39, 62] ++ rest) (by rw [H.eq]; simp) (by rw [len_tl]; simp; omega) (by rw [← len_tl]; omega)]
  refine exC ?_
  repeat walk_at "zz"
  with_reducible rename St _ _ _ _ _ _ _ _ => S
  refine findS3 S ?_
  clear S; intro t1 s S
  rw [hf]
  repeat walk_at "zz"
  refine exC ?_
  repeat walk_at "zz"
  refine isNoneS ?_
  repeat walk_at "zz"
  with_reducible refine ifF (decide_eq_false (by omega)) ?_
  repeat walk_at "zz"
  with_reducible rename St _ _ _ _ _ _ _ _ => S
  refine sliceSS S hsz ?_
  clear S; intro t6 s S
  rw [hs1]
  repeat walk_at "zz"
  refine neS (by decide +kernel) ?_
  repeat walk_at "zz"
  refine exC ?_
  repeat walk_at "zz"
  with_reducible rename St _ _ _ _ _ _ _ _ => S
  refine ldG S O (by decide) G.gn G.g50 ?_
  obtain ⟨oc', od, osl, name, qual, kV, doc, pm, an, cdv, ct, ho, hcd⟩ := G.f50
  refine callWith_fn ho rfl ?_ rfl
  repeat walk_at "zz"
  with_reducible rename St _ _ _ _ _ _ _ _ => S
  refine sliceSS S hsz ?_
  clear S; intro t7 s S
  rw [hs2]
  repeat walk_at "zz"
  with_reducible rename St _ _ _ _ _ _ _ _ => S
  refine ⟨S.base, useSpec S (plain_spec G hh (by omega) S.base hi) ?_⟩
  intro v z₂ s₂ le₂ len₂ S₂ hv₂
  obtain ⟨tw, rfl⟩ := hv₂
  clear S
  repeat walk_at "zz"
  refine exC ?_
  repeat walk_at "zz"
  refine isNoneS ?_
  repeat walk_at "zz"
  with_reducible rename St _ _ _ _ _ _ _ _ => S
  exact h _ _ _ _ le₂ S
end
end

section
open PySem.Builtin.Str

section
variable {w : World} {A : Around} {E : Value → Shared → Prop} {h₀ : Heap} {mg mb : Str → Option Value} {g : Shared} {z z' : PHeap} {L : Addr} {K Gs : List Str} {vals : List (Option Value)} {ms : List (Addr × Obj)} {s : Shared} {env : Env}

def ReadSpec (w : World) (h₀ : Heap) (m : Nat) : Prop := ∀ (A : Around) (s : Shared) (page : Str) (pre post : List Nat) (n : N) (t ta : Tok), A.handled = none → A.depth + m ≤ 800 → Le h₀.get? s.heap.get? →
  tl page = pre ++ (tl n.page ++ post) → page.length ≤ 1048576 → n.isE = true → n.Ok → n.dep < m → n.dep ≤ 6 → n.cnt ≤ 729 →
  codeAny (model P1 w) A (.call (.ref 57) ⟨[.str page t, .int (pre.length : Nat) ta], []⟩) (fun r s' => ∃ v, r = .ok (.ret v) ∧ Keeps s s' ∧ ∃ (T d : Addr) (tk : Tok), v = .ref T ∧ nw s.heap.objs.size s'.heap.get? T = some (tupOf #[.ref d, .int ((pre.length + n.page.length : Nat) : Int) tk]) ∧ n.Rep (nw s.heap.objs.size s'.heap.get?) [.ref d]) s

/-- the kind of an element that is read -/
def Kind (m : Nat) (n r : N) (c : Nat) (i s2 : Str) : Prop := (n = .a i s2 r ∧ c = 97) ∨ ∃ j : N, n = .f j s2 r ∧ i = j.page ∧ c = 102 ∧ j.isE = true ∧ j.Ok ∧ j.dep < m ∧ j.dep ≤ 6 ∧ j.cnt ≤ 729
/-- an element's first thing stands -/
def Done (Z : PHeap) (n r : N) (s2 : Str) (iv : Value) : Prop := ∀ (Z' : PHeap) (d B : Addr) (vs : List Value) (t : Tok) (nb nd : Nat), Le Z Z' → Z' B = some (listOf vs.toArray nb) → Z' d = some (listOf #[iv, .str s2 t, .ref B] nd) → r.Rep Z' vs → n.Rep Z' [.ref d]
theorem Done.mono {Z Z' : PHeap} {n r : N} {s2 : Str} {iv : Value} (h : Done Z n r s2 iv) (le : Le Z Z') : Done Z' n r s2 iv := fun Y d B vs t nb nd l => h Y d B vs t nb nd (le.trans l)

set_option maxHeartbeats 8000000 in
theorem read_d {m : Nat} (G : G1 h₀ mg mb) (IH : ReadSpec w h₀ m) (hh : A.handled = none) (hd : A.depth + m ≤ 800) (O : EnvOk env L K7 Gs7) {page : Str} {t tn t3 t5 : Tok} {pre rest : List Nat} {c : Nat} {i s2 : Str} {v1 v3 v5 : Value} {n r : N} {Q : Flow → Shared → Prop} (hK : Kind m n r c i s2) (hil : i.length ≤ 1048576)
    (S : St h₀ g z L K7 [some (.str page t), some v1, some (.str ⟨#[c]⟩ tn), some v3, some (.str i t3), some v5, some (.str s2 t5), none, none, none, none, none, none, none] [] s)
    (h : ∀ z' iv y s', Le z z' → Done (nw g.heap.objs.size z') n r s2 iv → St h₀ g z' L K7 [some (.str page t), some v1, some (.str ⟨#[c]⟩ tn), some v3, some iv, some v5, some (.str s2 t5), y, none, none, none, none, none, none] [] s' →
      wpAny (model P1 w) A (execs ((bodyOf P1 7).drop 10) env) Q E s') :
    wpAny (model P1 w) A (execs ((bodyOf P1 7).drop 9) env) Q E s := by
  have e102 : Str.ofString "f" = ⟨#[102]⟩ := by decide +kernel
  refine exC ?_
  repeat walk_at "zz"
  rcases hK with ⟨rfl, rfl⟩ | ⟨j, rfl, rfl, rfl, j1, j2, j3, j4, j5⟩
  · with_reducible refine ifF (by rw [e102]; decide) ?_
    repeat walk_at "zz"
    with_reducible rename St _ _ _ _ _ _ _ _ => S
    refine h _ _ _ _ (Le.refl _) ?_ S
    intro Z' d B vs t nb nd _ hB hd hr
    exact ⟨d, t3, t, B, nd, nb, vs, rfl, hd, hB, hr⟩
  · with_reducible refine ifT (by rw [e102]; decide) ?_
    refine exC ?_
    repeat walk_at "zz"
    with_reducible rename St _ _ _ _ _ _ _ _ => S
    refine ldG S O (by decide) G.gn G.g57 ?_
    obtain ⟨oc', od, osl, name, qual, kV, doc, pm, an, cdv, ct, ho, hcd⟩ := G.f57
    refine callWith_fn ho rfl ?_ rfl
    repeat walk_at "zz"
    with_reducible rename St _ _ _ _ _ _ _ _ => S
    refine ⟨S.base, useSpec S (IH A _ j.page [] [] j _ _ hh (by omega) S.base (by simp) hil j1 j2 j3 j4 j5) ?_⟩
    intro v z₂ s₂ le₂ len₂ S₂ hv₂
    obtain ⟨T, d, tk, rfl, hT, hd⟩ := hv₂
    have hd := hd.mono len₂
    have hT := nw_le _ _ _ _ (len₂ _ _ hT)
    clear S
    repeat walk_at "zz"
    refine exC ?_
    repeat walk_at "zz"
    refine isNoneR ?_
    repeat walk_at "zz"
    with_reducible rename St _ _ _ _ _ _ _ _ => S
    refine itemT (x := .int ((([] : List Nat).length + j.page.length : Nat) : Int) tk) (isT S hT) (by omega) (by omega) rfl ?_
    repeat walk_at "zz"
    with_reducible rename St _ _ _ _ _ _ _ _ => S
    refine lenS S (by omega) ?_
    clear S; intro t9 s S
    repeat walk_at "zz"
    refine PyProof.Rows.ne_int ?_
    repeat walk_at "zz"
    with_reducible refine ifF (by simp) ?_
    repeat walk_at "zz"
    refine exC ?_
    repeat walk_at "zz"
    with_reducible rename St _ _ _ _ _ _ _ _ => S
    refine itemT (x := .ref d) (isT S hT) (by omega) (by omega) rfl ?_
    repeat walk_at "zz"
    with_reducible rename St _ _ _ _ _ _ _ _ => S
    refine h _ _ _ _ le₂ ?_ S
    intro Z' d' B vs t nb nd le hB hd' hr
    exact ⟨d', d, t, B, nd, nb, vs, rfl, hd', hd.mono le, hB, hr⟩
end
end

section
open PySem.Builtin.Str

theorem N.page_head : ∀ {n : N}, n.isE = true → ∃ c q, tl n.page = 60 :: c :: q ∧ (c = 97 ∨ c = 102)
  | .a i s r, _ => ⟨97, _, by
      have e : tl (Str.ofString "<a p=\"") = [60, 97, 32, 112, 61, 34] := by decide +kernel
      simp only [N.page, tl_append, e, List.append_assoc, List.cons_append]; rfl, .inl rfl⟩
  | .f i s r, _ => ⟨102, _, by
      have e : tl (Str.ofString "<f p=\"") = [60, 102, 32, 112, 61, 34] := by decide +kernel
      simp only [N.page, tl_append, e, List.append_assoc, List.cons_append]; rfl, .inr rfl⟩
section
variable {w : World} {A : Around} {E : Value → Shared → Prop} {h₀ : Heap} {mg mb : Str → Option Value} {g : Shared} {z z' : PHeap} {L : Addr} {K Gs : List Str} {vals : List (Option Value)} {ms : List (Addr × Obj)} {s : Shared} {env : Env}

/-- what the loop over a row has done -/
def RowJ (g : Shared) (m : Nat) (page : Str) (c : Nat) (r : N) (post : List Nat) (Bt : Addr) (v0 v1 v2 v3 v4 v5 v6 : Value) (y7 : Option Value) (k : Nat) (z' : PHeap) (vals' : List (Option Value)) (ms' : List (Addr × Obj)) : Prop :=
  ∃ (hp : List Nat) (th : Tok) (y10 y11 y12 y13 : Option Value) (r' : N) (vs : List Value) (nb : Nat),
    vals' = [some v0, some v1, some v2, some v3, some v4, some v5, some v6, y7, some (.ref Bt), some (.int (hp.length : Nat) th), y10, y11, y12, y13] ∧ ms' = [(Bt, listOf vs.toArray nb)] ∧
    r'.isE = false ∧ r'.Ok ∧ r'.dep ≤ m ∧ r'.dep ≤ 6 ∧ r'.cnt ≤ 729 ∧ tl page = hp ++ (tl r'.page ++ ([60, 47, c, 62] ++ post)) ∧ k ≤ hp.length ∧ vs.length = 2 * k ∧
    ∀ (Z : PHeap) (ws : List Value), Le (nw g.heap.objs.size z') Z → r'.Rep Z ws → r.Rep Z (vs ++ ws)

set_option maxHeartbeats 8000000 in
theorem read_e {m : Nat} (G : G1 h₀ mg mb) (IH : ReadSpec w h₀ m) (hh : A.handled = none) (hd : A.depth + m ≤ 800) (O : EnvOk env L K7 Gs7) {page : Str} {t tn t5 t6 : Tok} {pre post hp0 : List Nat} {c stop : Nat} {s2 : Str} {v1 v3 iv : Value} {y : Option Value} {n r : N} {Q : Flow → Shared → Prop}
    (hc : c = 97 ∨ c = 102) (hlen : page.length ≤ 1048576) (hr1 : r.isE = false) (hr2 : r.Ok) (hr3 : r.dep ≤ m) (hr4 : r.dep ≤ 6) (hr5 : r.cnt ≤ 729) (hstop : stop + 2 = hp0.length) (htl : tl page = hp0 ++ (tl r.page ++ ([60, 47, c, 62] ++ post)))
    (hpage : tl page = pre ++ (tl n.page ++ post)) (hD : Done (nw g.heap.objs.size z) n r s2 iv)
    (S : St h₀ g z L K7 [some (.str page t), some v1, some (.str ⟨#[c]⟩ tn), some v3, some iv, some (.int (stop : Nat) t6), some (.str s2 t5), y, none, none, none, none, none, none] [] s)
    (h : ∀ (T d : Addr) (tk : Tok) s', Keeps g s' → nw g.heap.objs.size s'.heap.get? T = some (tupOf #[.ref d, .int ((pre.length + n.page.length : Nat) : Int) tk]) → n.Rep (nw g.heap.objs.size s'.heap.get?) [.ref d] → Q (.ret (.ref T)) s') :
    wpAny (model P1 w) A (execs ((bodyOf P1 7).drop 10) env) Q E s := by
  have hsz : page.length ≤ sizeLine := by rw [sizeLine_eq]; omega
  refine exC ?_
  repeat walk_at "zz"
  with_reducible rename St _ _ _ _ _ _ _ _ => S
  refine newL S ?hsz ?_
  case hsz => exact Nat.le_of_ble_eq_true rfl
  clear S; intro B s S
  repeat walk_at "zz"
  refine exC ?_
  repeat walk_at "zz"
  refine exC ?_
  repeat walk_at "zz"
  with_reducible rename St _ _ _ _ _ _ _ _ => S
  refine lenS S (by omega) ?_
  clear S; intro t1 s S
  repeat walk_at "zz"
  with_reducible rename St _ _ _ _ _ _ _ _ => S
  rw [show (stop : Int) + 2 = ((hp0.length : Nat) : Int) from by omega] at S
  refine forR S hh (by omega) (RowJ g m page c r post B (.str page t) v1 (.str ⟨#[c]⟩ tn) v3 iv (.int (stop : Nat) t6) (.str s2 t5) y)
    ⟨hp0, _, _, _, _, _, r, [], _, rfl, rfl, hr1, hr2, hr3, hr4, hr5, htl, Nat.zero_le _, rfl, fun Z ws _ h => h⟩ ?_ ?_
  · clear S
    intro E' i tk z₁ vals' I o ms' s hi' le hJ S
    obtain ⟨hp, th, y10, y11, y12, y13, r', vs, nb, rfl, rfl, h1, h2, h3, h4, h5, h6, h7, h8, h9⟩ := hJ
    refine wpAny_assign_Name ?_
    repeat walk_at "zz"
    refine exC ?_
    repeat walk_at "zz"
    with_reducible rename St _ _ _ _ _ _ _ _ => S
    obtain ⟨x, c1, q, hF, hcut, hcase⟩ : ∃ x c1 q, Fill x ∧ tl page = hp ++ (tl (escF false x) ++ (60 :: c1 :: q)) ∧
        ((r' = .last x ∧ c1 = 47 ∧ q = c :: 62 :: post) ∨ ∃ k r'', r' = .more x k r'' ∧ (c1 = 97 ∨ c1 = 102)) := by
      cases r' with
      | a i s r => simp [N.isE] at h1
      | f i s r => simp [N.isE] at h1
      | last x => exact ⟨x, 47, _, h2, h6, .inl ⟨rfl, rfl, rfl⟩⟩
      | more x k r'' =>
        obtain ⟨c1, q, e, hc1⟩ := N.page_head (n := k) h2.2.1
        refine ⟨x, c1, q ++ (tl r''.page ++ ([60, 47, c, 62] ++ post)), h2.1, ?_, .inr ⟨k, r'', rfl, hc1⟩⟩
        rw [h6, N.page, tl_append, tl_append, e]
        simp only [List.append_assoc, List.cons_append]
    have n60 : 60 ∉ tl (escF false x) := by rw [esc_ch]; exact esc_free false (by decide) (by decide) _
    obtain ⟨lp, hlp⟩ : ∃ lp, lp = hp ++ tl (escF false x) := ⟨_, rfl⟩
    have hlpl : lp.length = hp.length + (escF false x).length := by rw [hlp, List.length_append, ← len_tl]
    have hf : Txt.find3 page (Str.ofString "<") ((hp.length : Nat) : Int) = ((lp.length : Nat) : Int) := by
      rw [e60, find3_cut (pre := hp) (a := tl (escF false x)) (b := c1 :: q) (by rw [hcut]; simp) n60 rfl, hlp, List.length_append]
    have hs1 : Txt.slice page (some ((hp.length : Nat) : Int)) (some ((lp.length : Nat) : Int)) = escF false x := by
      rw [sl_cut (p := hp) (m := tl (escF false x)) (q := 60 :: c1 :: q) (by rw [hcut]; simp) rfl (by rw [← len_tl]; omega)]
    have hs2 : Txt.slice page (some ((lp.length : Nat) + 1 : Int)) (some ((lp.length : Nat) + 2 : Int)) = ⟨#[c1]⟩ :=
      sl_cut (p := lp ++ [60]) (m := [c1]) (q := q) (by rw [hcut, hlp]; simp) (by simp) (by simp; omega)
    have hlen2 : page.length = lp.length + (2 + q.length) := by
      rw [len_tl, hcut, hlp]; simp; omega
    refine findS3 S ?_
    clear S; intro t7 s S
    rw [hf]
    repeat walk_at "zz"
    refine exC ?_
    repeat walk_at "zz"
    with_reducible refine ifF (decide_eq_false (by omega)) ?_
    repeat walk_at "zz"
    refine exC ?_
    repeat walk_at "zz"
    with_reducible rename St _ _ _ _ _ _ _ _ => S
    refine ldG S O (by decide) G.gn G.g50 ?_
    obtain ⟨oc', od, osl, name, qual, kV, doc, pm, an, cdv, ct, ho, hcd⟩ := G.f50
    refine callWith_fn ho rfl ?_ rfl
    repeat walk_at "zz"
    with_reducible rename St _ _ _ _ _ _ _ _ => S
    refine sliceSS S hsz ?_
    clear S; intro t8 s S
    rw [hs1]
    repeat walk_at "zz"
    with_reducible rename St _ _ _ _ _ _ _ _ => S
    have hFx := hF
    unfold Fill at hFx
    refine ⟨S.base, useSpec S (plain_spec G hh (by omega) S.base (by omega)) ?_⟩
    intro v z₂ s₂ le₂ len₂ S₂ hv₂
    obtain ⟨tw, rfl⟩ := hv₂
    clear S
    repeat walk_at "zz"
    refine exC ?_
    repeat walk_at "zz"
    refine isNoneS ?_
    repeat walk_at "zz"
    refine exC ?_
    repeat walk_at "zz"
    with_reducible rename St _ _ _ _ _ _ _ _ => S
    refine getAppend S (.tail _ (.head _)) ?_
    repeat walk_at "zz"
    with_reducible rename St _ _ _ _ _ _ _ _ => S
    refine app1 S (by rw [List.size_toArray, sizeLine_eq]; omega) ?_
    clear S; intro s S
    rw [List.push_toArray] at S
    repeat walk_at "zz"
    refine exC ?_
    repeat walk_at "zz"
    with_reducible rename St _ _ _ _ _ _ _ _ => S
    refine sliceSS S hsz ?_
    clear S; intro t9 s S
    rw [hs2]
    repeat walk_at "zz"
    rcases hcase with ⟨rfl, rfl, rfl⟩ | ⟨k, r'', rfl, hc1⟩
    · with_reducible refine ifT (by decide +kernel) ?_
      have hs3 : Txt.slice page (some ((lp.length : Nat) : Int)) (some ((lp.length : Nat) + 4 : Int)) = ⟨#[60, 47, c, 62]⟩ :=
        sl_cut (p := lp) (m := [60, 47, c, 62]) (q := post) (by rw [hcut, hlp]; simp) rfl (by simp)
      refine exC ?_
      repeat walk_at "zz"
      with_reducible rename St _ _ _ _ _ _ _ _ => S
      refine sliceSS S hsz ?_
      clear S; intro t10 s S
      rw [hs3]
      repeat walk_at "zz"
      with_reducible rename St _ _ _ _ _ _ _ _ => S
      refine addS S (by show 2 + 1 ≤ _; rw [sizeLine_eq]; omega) ?_
      clear S; intro t11 s S
      repeat walk_at "zz"
      with_reducible rename St _ _ _ _ _ _ _ _ => S
      refine addS S (by show 2 + 1 + 1 ≤ _; rw [sizeLine_eq]; omega) ?_
      clear S; intro t12 s S
      repeat walk_at "zz"
      refine neS (by rcases hc with rfl | rfl <;> decide +kernel) ?_
      repeat walk_at "zz"
      refine exC ?_
      repeat walk_at "zz"
      with_reducible rename St _ _ _ _ _ _ _ _ => S
      refine newL S ?hsz ?_
      case hsz => exact Nat.le_of_ble_eq_true rfl
      clear S; intro W s S
      obtain ⟨z3, le3, _, hW, S⟩ := S.freeze
      repeat walk_at "zz"
      with_reducible rename St _ _ _ _ _ _ _ _ => S
      refine newT S ?hsz ?_
      case hsz => exact Nat.le_of_ble_eq_true rfl
      clear S; intro T s S
      obtain ⟨z4, le4, _, hT, S⟩ := S.freeze
      replace S := S.drop
      obtain ⟨z5, le5, _, hB, S⟩ := S.freeze
      repeat walk_at "zz"
      have hplen : lp.length + 4 = pre.length + n.page.length := by
        have e := congrArg List.length hpage
        rw [← len_tl, hlen2] at e
        simp only [List.length_append, List.length_cons, ← len_tl] at e
        omega
      rw [show ((lp.length : Nat) : Int) + 4 = ((pre.length + n.page.length : Nat) : Int) from by omega] at hT
      have le := nw_mono (n := g.heap.objs.size) S.keep
      have lez := nw_mono (n := g.heap.objs.size) ((((‹Le z z₁›.trans le₂).trans le3).trans le4).trans le5)
      have lez1 := nw_mono (n := g.heap.objs.size) (((le₂.trans le3).trans le4).trans le5)
      refine h T W _ _ S.keeps (le _ _ (nw_mono le5 _ _ hT)) ?_
      refine hD _ W B _ _ _ _ (lez.trans le) (le _ _ hB) (le _ _ (nw_mono (le4.trans le5) _ _ hW)) ?_
      exact h9 _ _ (lez1.trans le) ⟨_, rfl⟩
    · with_reducible refine ifF (by rcases hc1 with rfl | rfl <;> decide +kernel) ?_
      obtain ⟨k1, k2, k3, k4, k5⟩ := h2
      simp only [N.dep] at h3 h4
      simp only [N.cnt] at h5
      have hm1 := Nat.le_max_left (k.dep + 1) r''.dep
      have hm2 := Nat.le_max_right (k.dep + 1) r''.dep
      have hcut2 : tl page = lp ++ (tl k.page ++ (tl r''.page ++ ([60, 47, c, 62] ++ post))) := by
        rw [h6, N.page, tl_append, tl_append, hlp]; simp
      repeat walk_at "zz"
      refine exC ?_
      repeat walk_at "zz"
      with_reducible rename St _ _ _ _ _ _ _ _ => S
      refine ldG S O (by decide) G.gn G.g57 ?_
      obtain ⟨oc2, od2, osl2, name2, qual2, kV2, doc2, pm2, an2, cdv2, ct2, ho2, hcd2⟩ := G.f57
      refine callWith_fn ho2 rfl ?_ rfl
      repeat walk_at "zz"
      with_reducible rename St _ _ _ _ _ _ _ _ => S
      refine ⟨S.base, useSpec S (IH A _ page lp _ k _ _ hh (by omega) S.base hcut2 hlen k2 k3 (by omega) (by omega) (by omega)) ?_⟩
      intro v z₃ s₂ le₃ len₃ S₂ hv₂
      obtain ⟨T, d, tk, rfl, hT, hdk⟩ := hv₂
      have hdk := hdk.mono len₃
      have hT := nw_le _ _ _ _ (len₃ _ _ hT)
      rw [show lp.length + k.page.length = (lp ++ tl k.page).length from by rw [List.length_append, ← len_tl]] at hT
      clear S
      repeat walk_at "zz"
      refine exC ?_
      repeat walk_at "zz"
      refine isNoneR ?_
      repeat walk_at "zz"
      refine exC ?_
      repeat walk_at "zz"
      with_reducible rename St _ _ _ _ _ _ _ _ => S
      refine getAppend S (.tail _ (.head _)) ?_
      repeat walk_at "zz"
      with_reducible rename St _ _ _ _ _ _ _ _ => S
      refine itemT (x := .ref d) (isT S hT) (by omega) (by omega) rfl ?_
      repeat walk_at "zz"
      with_reducible rename St _ _ _ _ _ _ _ _ => S
      refine app1 S (by rw [List.size_toArray, List.length_append, List.length_singleton, sizeLine_eq]; omega) ?_
      clear S; intro s S
      rw [List.push_toArray] at S
      repeat walk_at "zz"
      refine exC ?_
      repeat walk_at "zz"
      with_reducible rename St _ _ _ _ _ _ _ _ => S
      refine itemT (x := .int ((lp ++ tl k.page).length : Nat) tk) (isT S hT) (by omega) (by omega) rfl ?_
      repeat walk_at "z"
      with_reducible rename St _ _ _ _ _ _ _ _ => S
      have hkl : 1 ≤ (tl k.page).length := by
        obtain ⟨c2, q2, e2, _⟩ := N.page_head (n := k) k2
        rw [e2]; simp
      refine ⟨_, _, _, le₂.trans le₃, ⟨lp ++ tl k.page, _, _, _, _, _, r'', _, _, rfl, rfl, k4, k5, by omega, by omega, by omega, by rw [hcut2]; simp, ?_, ?_, ?_⟩, S⟩
      · rw [List.length_append]; omega
      · simp; omega
      · intro Z ws leZ hws
        have e := h9 Z (.str x tw :: .ref d :: ws) ((nw_mono (le₂.trans le₃)).trans leZ) ⟨_, _, _, rfl, hdk.mono leZ, hws⟩
        simpa using e
  · clear S
    intro z₁ vals' ms' s le hJ S
    obtain ⟨hp, th, y10, y11, y12, y13, r', vs, nb, rfl, rfl, h1, h2, h3, h4, h5, h6, h7, h8, h9⟩ := hJ
    have e := congrArg List.length h6
    rw [← len_tl] at e
    simp only [List.length_append, List.length_cons] at e
    omega
end
end

section
open PySem.Builtin.Str
section
variable {w : World} {A : Around} {E : Value → Shared → Prop} {h₀ : Heap} {mg mb : Str → Option Value} {g : Shared} {z z' : PHeap} {L : Addr} {K Gs : List Str} {vals : List (Option Value)} {ms : List (Addr × Obj)} {s : Shared} {env : Env}

/-- an element's page, cut up -/
def Parts (n r : N) (c : Nat) (i s2 : Str) : Prop := tl n.page = [60, c, 32, 112, 61, 34] ++ (tl (escF true i) ++ ([34, 32, 113, 61, 39] ++ (tl (escF true s2) ++ ([39, 62] ++ (tl r.page ++ [60, 47, c, 62])))))
theorem el_parts {m : Nat} : ∀ {n : N}, n.isE = true → n.Ok → n.dep ≤ m → n.dep ≤ 6 → n.cnt ≤ 729 → ∃ (r : N) (c : Nat) (i s2 : Str), Kind m n r c i s2 ∧ Parts n r c i s2 ∧ (c = 97 ∨ c = 102) ∧ i.length + 5 * sp i ≤ 1048576 ∧ Fill s2 ∧ r.isE = false ∧ r.Ok ∧ r.dep ≤ m ∧ r.dep ≤ 6 ∧ r.cnt ≤ 729
  | .a i s2 r, _, ⟨h1, h2, h3, h4⟩, d1, d2, d3 => by
    simp only [N.dep] at d1 d2
    simp only [N.cnt] at d3
    have e1 : tl (Str.ofString "<a p=\"") = [60, 97, 32, 112, 61, 34] := by decide +kernel
    have e2 : tl (Str.ofString "\" q='") = [34, 32, 113, 61, 39] := by decide +kernel
    have e3 : tl (Str.ofString "'>") = [39, 62] := by decide +kernel
    have e4 : tl (Str.ofString "</a>") = [60, 47, 97, 62] := by decide +kernel
    have hF := h1
    unfold Fill at hF
    refine ⟨r, 97, i, s2, .inl ⟨rfl, rfl⟩, ?_, .inl rfl, by omega, h2, h3, h4, d1, d2, by omega⟩
    unfold Parts
    simp only [N.page, tl_append, e1, e2, e3, e4, List.append_assoc]
  | .f j s2 r, _, ⟨h0, h1, h2, h3, h4⟩, d1, d2, d3 => by
    simp only [N.dep] at d1 d2
    simp only [N.cnt] at d3
    have hd1 := Nat.le_max_left (j.dep + 1) r.dep
    have hd2 := Nat.le_max_right (j.dep + 1) r.dep
    have e1 : tl (Str.ofString "<f p=\"") = [60, 102, 32, 112, 61, 34] := by decide +kernel
    have e2 : tl (Str.ofString "\" q='") = [34, 32, 113, 61, 39] := by decide +kernel
    have e3 : tl (Str.ofString "'>") = [39, 62] := by decide +kernel
    have e4 : tl (Str.ofString "</f>") = [60, 47, 102, 62] := by decide +kernel
    have hl := (N.len_page j 6 (by omega) h1).1 h0
    have hs := (N.sp_page j h1).1 h0
    refine ⟨r, 102, j.page, s2, .inr ⟨j, rfl, rfl, rfl, h0, h1, by omega, by omega, by omega⟩, ?_, .inr rfl, by omega, h2, h3, h4, by omega, by omega, by omega⟩
    unfold Parts
    simp only [N.page, tl_append, e1, e2, e3, e4, List.append_assoc]

theorem read_body {m : Nat} (G : G1 h₀ mg mb) (IH : ReadSpec w h₀ m) (hh : A.handled = none) (hd : A.depth + m ≤ 800) (O : EnvOk env L K7 Gs7) {page : Str} {t ta : Tok} {pre post : List Nat} {n : N} {Q : Flow → Shared → Prop}
    (hpage : tl page = pre ++ (tl n.page ++ post)) (hlen : page.length ≤ 1048576) (hE : n.isE = true) (hOk : n.Ok) (hdep : n.dep ≤ m) (hdep6 : n.dep ≤ 6) (hcnt : n.cnt ≤ 729)
    (S : St h₀ g z L K7 [some (.str page t), some (.int (pre.length : Nat) ta), none, none, none, none, none, none, none, none, none, none, none, none] [] s)
    (h : ∀ (T d : Addr) (tk : Tok) s', Keeps g s' → nw g.heap.objs.size s'.heap.get? T = some (tupOf #[.ref d, .int ((pre.length + n.page.length : Nat) : Int) tk]) → n.Rep (nw g.heap.objs.size s'.heap.get?) [.ref d] → Q (.ret (.ref T)) s') :
    wpAny (model P1 w) A (execs (bodyOf P1 7) env) Q E s := by
  obtain ⟨r, c, i, s2, hK, hP, hc, hi, hF, r1, r2, r3, r4, r5⟩ := el_parts hE hOk hdep hdep6 hcnt
  have hF' := hF
  unfold Fill at hF'
  have H : Head page pre c i s2 (tl r.page ++ ([60, 47, c, 62] ++ post)) := ⟨by rw [hpage, hP]; simp, hc, hlen⟩
  with_reducible refine read_a O H S ?_
  intro tn s1 S1
  with_reducible refine read_b G hh (by omega) O H hi S1 ?_
  intro z2 t2 t3 s2' le2 S2
  with_reducible refine read_c G hh (by omega) O H (by omega) S2 ?_
  intro z3 t4 t5 s3 le3 S3
  with_reducible refine read_d (pre := pre) (rest := []) G IH hh hd O hK (by omega) S3 ?_
  intro z4 iv y s4 le4 hD S4
  have hstop : pre.length + 6 + (escF true i).length + 5 + (escF true s2).length + 2 = (pre ++ ([60, c, 32, 112, 61, 34] ++ (tl (escF true i) ++ ([34, 32, 113, 61, 39] ++ (tl (escF true s2) ++ [39, 62]))))).length := by
    rw [len_tl, len_tl]; simp; omega
  have htl : tl page = (pre ++ ([60, c, 32, 112, 61, 34] ++ (tl (escF true i) ++ ([34, 32, 113, 61, 39] ++ (tl (escF true s2) ++ [39, 62]))))) ++ (tl r.page ++ ([60, 47, c, 62] ++ post)) := by
    rw [H.eq]; simp
  with_reducible exact read_e G IH hh hd O hc hlen r1 r2 r3 r4 r5 hstop htl hpage hD S4 h
theorem sc7 : ScopeOk (scopeOf P1 7) K7 Gs7 := by
  refine ⟨?_, ?_, ?_, ?_, ?_, ?_, ?_, ?_, ?_⟩ <;> decide +kernel
theorem read_spec (G : G1 h₀ mg mb) : ∀ m, ReadSpec w h₀ m
  | 0 => fun A s page pre post n t ta hh hd h0 hp hl hE hOk hdep => absurd hdep (Nat.not_lt_zero _)
  | m + 1 => by
    intro A s page pre post n t ta hh hd h0 hp hl hE hOk hdep hdep6 hcnt
    obtain ⟨oc, od, osl, name, qual, kV, doc, pm, an, cdv, ct, ho, hcd⟩ := G.f57
    refine enterFn (names := ["page", "at"]) (rest := ["name", "end", "inner", "stop", "second", "whole", "kids", "here", "turn", "less", "text", "kid"]) (vs := [.str page t, .int (pre.length : Nat) ta]) ho hcd G.lim h0 (by omega) (BindsTo.of_eq rfl) rfl sc7 rfl rfl ?_
    intro s' env E' O _ S
    have hh' : (A.deeper env).handled = none := hh
    have hd' : (A.deeper env).depth + m ≤ 800 := by rw [Around.deeper]; simp only; omega
    have hdm : n.dep ≤ m := by omega
    have IH := read_spec G m
    have S : St h₀ s s.heap.get? s.heap.objs.size K7 [some (.str page t), some (.int (pre.length : Nat) ta), none, none, none, none, none, none, none, none, none, none, none, none] [] s' := S
    with_reducible refine read_body G IH hh' hd' O hp hl hE hOk hdm hdep6 hcnt S ?_
    intro T d tk s' k hT hd
    exact ⟨k, T, d, tk, rfl, hT, hd⟩
end
end

section
namespace N
/-- a tree's data -/
def data : N → List PyData
  | .a i s r => [.list [.str i, .str s, .list r.data]]
  | .f i s r => [.list (i.data ++ [.str s, .list r.data])]
  | .last x => [.str x]
  | .more x k r => .str x :: (k.data ++ r.data)
theorem data_one : ∀ {n : N}, n.isE = true → ∃ D, n.data = [D]
  | .a _ _ _, _ => ⟨_, rfl⟩
  | .f _ _ _, _ => ⟨_, rfl⟩
theorem readsAll_append {h : Heap} : ∀ {vs : List Value} {ds : List PyData} {as : List Addr} {ws : List Value} {es : List PyData} {bs : List Addr}, ReadsAll h vs ds as → ReadsAll h ws es bs → ReadsAll h (vs ++ ws) (ds ++ es) (as ++ bs)
  | _, _, _, _, _, _, .nil, h2 => h2
  | _, _, _, _, _, _, .cons p q, h2 => by rw [List.append_assoc]; exact .cons p (readsAll_append q h2)
theorem rep_reads {h : Heap} {z : PHeap} (le : Le z h.get?) : ∀ {n : N} {vs : List Value}, n.Rep z vs → ∃ as, ReadsAll h vs n.data as
  | .a i s r, _, ⟨d, t1, t2, b, n, n', rs, h1, h2, h3, h4⟩ => by
    subst h1
    obtain ⟨as, e⟩ := rep_reads le h4
    exact ⟨_, .cons (reads_list_at (le _ _ h2) rfl rfl (.cons (.str _ _) (.cons (.str _ _) (.cons (reads_list_at (le _ _ h3) rfl rfl e) .nil)))) .nil⟩
  | .f i s r, _, ⟨d, e, t2, b, n, n', rs, h1, h2, h3, h4, h5⟩ => by
    subst h1
    obtain ⟨as, e1⟩ := rep_reads le h5
    obtain ⟨bs, e2⟩ := rep_reads le h3
    exact ⟨_, .cons (reads_list_at (le _ _ h2) rfl rfl (readsAll_append e2 (.cons (.str _ _) (.cons (reads_list_at (le _ _ h4) rfl rfl e1) .nil)))) .nil⟩
  | .last x, _, ⟨t, h1⟩ => by
    subst h1
    exact ⟨_, .cons (.str _ _) .nil⟩
  | .more x k r, _, ⟨t, e, rs, h1, h2, h3⟩ => by
    subst h1
    obtain ⟨as, e1⟩ := rep_reads le h2
    obtain ⟨bs, e2⟩ := rep_reads le h3
    exact ⟨_, .cons (.str _ _) (readsAll_append e1 e2)⟩
theorem lay_append : ∀ (xs ys : List PyData), PyData.canLayAll0 (xs ++ ys) = (PyData.canLayAll0 xs && PyData.canLayAll0 ys)
  | [], _ => rfl
  | x :: xs, ys => by simp only [List.cons_append, PyData.canLayAll0, lay_append xs ys, Bool.and_assoc]
theorem depth_append : ∀ (xs ys : List PyData), PyData.depthAll (xs ++ ys) = max (PyData.depthAll xs) (PyData.depthAll ys)
  | [], _ => by simp [PyData.depthAll]
  | x :: xs, ys => by simp only [List.cons_append, PyData.depthAll, depth_append xs ys, Nat.max_assoc]
theorem eqv_append : ∀ (xs ys us vs : List PyData), PyData.eqvAll xs us = true → PyData.eqvAll ys vs = true → PyData.eqvAll (xs ++ ys) (us ++ vs) = true
  | [], _, [], _, _, h => h
  | [], _, _ :: _, _, h, _ => by simp [PyData.eqvAll] at h
  | _ :: _, _, [], _, h, _ => by simp [PyData.eqvAll] at h
  | x :: xs, ys, u :: us, vs, h, h2 => by
    simp only [PyData.eqvAll, Bool.and_eq_true, List.cons_append] at h ⊢
    exact ⟨h.1, eqv_append xs ys us vs h.2 h2⟩
theorem data_lay : ∀ {n : N}, n.Ok → PyData.canLayAll0 n.data = true
  | .a i s r, ⟨h1, h2, _, h4⟩ => by
    simp [data, PyData.canLayAll0, PyData.canLay0, h1.1.2, h2.1.2, data_lay h4]
  | .f i s r, ⟨_, h1, h2, _, h4⟩ => by
    simp [data, PyData.canLayAll0, PyData.canLay0, lay_append, h2.1.2, data_lay h1, data_lay h4]
  | .last x, h => by
    have h : Fill x := h
    simp [data, PyData.canLayAll0, PyData.canLay0, h.1.2]
  | .more x k r, ⟨h0, _, h2, _, h4⟩ => by
    simp [data, PyData.canLayAll0, PyData.canLay0, lay_append, h0.1.2, data_lay h2, data_lay h4]
theorem data_depth : ∀ {n : N}, n.Ok → (n.isE = true → PyData.depthAll n.data ≤ 2 * n.dep + 2) ∧ (n.isE = false → PyData.depthAll n.data ≤ 2 * n.dep)
  | .a i s r, ⟨_, _, h3, h4⟩ => by
    have ih := (data_depth h4).2 h3
    refine ⟨fun _ => ?_, fun q => by simp [isE] at q⟩
    simp only [data, PyData.depthAll, PyData.depth, dep]
    omega
  | .f i s r, ⟨h0, h1, _, h3, h4⟩ => by
    have ih := (data_depth h4).2 h3
    have ih1 := (data_depth h1).1 h0
    refine ⟨fun _ => ?_, fun q => by simp [isE] at q⟩
    simp only [data, PyData.depthAll, PyData.depth, dep, depth_append]
    omega
  | .last x, _ => ⟨fun q => by simp [isE] at q, fun _ => by simp [data, PyData.depthAll, PyData.depth]⟩
  | .more x k r, ⟨_, h1, h2, h3, h4⟩ => by
    have ih := (data_depth h4).2 h3
    have ih1 := (data_depth h2).1 h1
    refine ⟨fun q => by simp [isE] at q, fun _ => ?_⟩
    simp only [data, PyData.depthAll, PyData.depth, dep, depth_append]
    omega
theorem data_eqv : ∀ n : N, PyData.eqvAll n.data n.data = true
  | .a i s r => by simp [data, PyData.eqvAll, PyData.eqv, data_eqv r]
  | .f i s r => by
    simp only [data, PyData.eqvAll, PyData.eqv, Bool.and_true]
    exact eqv_append _ _ _ _ (data_eqv i) (by simp [PyData.eqvAll, PyData.eqv, data_eqv r])
  | .last x => by simp [data, PyData.eqvAll, PyData.eqv]
  | .more x k r => by
    simp only [data, PyData.eqvAll, PyData.eqv, beq_self_eq_true, Bool.true_and]
    exact eqv_append _ _ _ _ (data_eqv k) (data_eqv r)
end N
section
variable {w : World} {A : Around} {E : Value → Shared → Prop} {h₀ : Heap} {g : Shared} {z z' : PHeap} {L : Addr} {K Gs : List Str} {vals : List (Option Value)} {ms : List (Addr × Obj)} {s : Shared} {env : Env}
/-- two like pairs are equal -/
theorem pair_eq {T U d e : Addr} {n : N} {k : Int} {t u : Tok} {Q : Value → Shared → Prop} (hT : s.heap.get? T = some (tupOf #[.ref d, .int k t])) (hU : s.heap.get? U = some (tupOf #[.ref e, .int k u]))
    (h1 : n.Rep s.heap.get? [.ref d]) (h2 : n.Rep s.heap.get? [.ref e]) (hE : n.isE = true) (hOk : n.Ok) (hd : n.dep ≤ 6) (hu : A.units + 64 < cLine) (h : Q (.bool true) s) :
    wpAny (model P1 w) A (compareOp .Eq (.ref T) (.ref U)) Q E s := by
  obtain ⟨D, hD⟩ := N.data_one hE
  obtain ⟨as, r1⟩ := N.rep_reads (Le.refl _) h1
  obtain ⟨bs, r2⟩ := N.rep_reads (Le.refl _) h2
  have l1 := N.data_lay hOk
  have l2 := (N.data_depth hOk).1 hE
  have l3 := N.data_eqv n
  rw [hD] at r1 r2 l1 l2 l3
  simp only [PyData.canLayAll0, Bool.and_true] at l1
  simp only [PyData.depthAll] at l2
  simp only [PyData.eqvAll, Bool.and_true] at l3
  have hs : SeqAt.shaped (.tuple [D, .int k]) = true := by
    unfold SeqAt.shaped
    rw [Bool.and_eq_true]
    refine ⟨by simp [PyData.canLay0, PyData.canLayAll0, l1], decide_eq_true ?_⟩
    simp only [PyData.depth, PyData.depthAll]
    omega
  refine eq_dataH (reads_tuple_at (xs := [D, .int k]) hT rfl rfl (N.readsAll_append r1 (.cons (.int k t) .nil))) (reads_tuple_at (xs := [D, .int k]) hU rfl rfl (N.readsAll_append r2 (.cons (.int k u) .nil))) hs hs hu ?_
  have : PyData.eqv (.tuple [D, .int k]) (.tuple [D, .int k]) = true := by
    simp [PyData.eqv, PyData.eqvAll, l3]
  rw [this]
  exact h
end
end

section
open PySem.Builtin.Str

def zList (z : PHeap) (l : Addr) (vs : List Value) : Prop := ∃ o, z l = some o ∧ o.cls = .type "list" ∧ ∃ n, o.data = .seq vs.toArray n
abbrev K8 : List Str := ["script", "most", "drawn", "at", "fills", "framed", "kids", "number", "above", "tree", "page"]
abbrev Gs8 : List Str := ["len", "range", "_law_tree", "_law_page", "_law_read"]
section
variable {w : World} {A : Around} {E : Value → Shared → Prop} {h₀ : Heap} {mg mb : Str → Option Value} {g : Shared} {z z' : PHeap} {L : Addr} {K Gs : List Str} {vals : List (Option Value)} {ms : List (Addr × Obj)} {s : Shared} {env : Env}
theorem zList.at {l : Addr} {vs : List Value} (h : zList z l vs) (S : St h₀ g z L K vals ms s) : s.heap.IsList l vs.toArray := by
  obtain ⟨o, h1, h2⟩ := h; exact ⟨o, S.keep _ _ h1, h2⟩
theorem zList.mono {l : Addr} {vs : List Value} (h : zList z l vs) (le : Le z z') : zList z' l vs := by
  obtain ⟨o, h1, h2⟩ := h; exact ⟨o, le _ _ h1, h2⟩

set_option maxHeartbeats 8000000 in
theorem law_a (G : G1 h₀ mg mb) (hh : A.handled = none) (O : EnvOk env L K8 Gs8) {sl : Addr} {svs : List Value} {sns : List Int} {Q : Flow → Shared → Prop}
    (hz : zList z sl svs) (hi : IntsAre svs sns) (hl : sns.length ≤ 63)
    (S : St h₀ g z L K8 [some (.ref sl), none, none, none, none, none, none, none, none, none, none] [] s)
    (h : ∀ (z' : PHeap) (s' : Shared) (D : Addr) (vs : List Value) (ns : List Int) (n : Nat) (x y : Option Value), Le z z' → IntsAre vs ns → 1 ≤ ns.length → ns.length ≤ 7 →
      St h₀ g z' L K8 [some (.ref sl), y, some (.ref D), x, none, none, none, none, none, none, none] [(D, listOf vs.toArray n)] s' →
      wpAny (model P1 w) A (execs ((bodyOf P1 8).drop 3) env) Q E s') :
    wpAny (model P1 w) A (execs (bodyOf P1 8) env) Q E s := by
  have hvl := hi.length
  refine exC ?_
  repeat walk_at "zz"
  with_reducible rename St _ _ _ _ _ _ _ _ => S
  refine powI S (by decide) (by decide) (by decide) ?_
  clear S; intro t0 s S
  repeat walk_at "zz"
  with_reducible rename St _ _ _ _ _ _ _ _ => S
  refine mulI S (IntMulOk.of_right (by decide)) ?_
  clear S; intro t1 s S
  repeat walk_at "zz"
  refine exC ?_
  repeat walk_at "zz"
  with_reducible rename St _ _ _ _ _ _ _ _ => S
  refine lenL S (hz.at S) (by rw [List.size_toArray, hvl, sizeLine_eq]; omega) ?_
  clear S; intro t1 s S
  repeat walk_at "zz"
  with_reducible rename St _ _ _ _ _ _ _ _ => S
  refine newL S ?hsz ?_
  case hsz => exact Nat.le_of_ble_eq_true rfl
  clear S; intro D s S
  repeat walk_at "zz"
  refine exC ?_
  repeat walk_at "zz"
  with_reducible rename St _ _ _ _ _ _ _ _ => S
  refine lenL S (hz.at S) (by rw [List.size_toArray, hvl, sizeLine_eq]; omega) ?_
  clear S; intro t2 s S
  repeat walk_at "zz"
  with_reducible rename St _ _ _ _ _ _ _ _ => S
  rw [List.size_toArray, hvl] at S
  refine forR S hh (by omega) (fun i z' vals' ms' => ∃ (x y : Option Value) (vs : List Value) (ns : List Int) (n : Nat) (tm : Tok), IntsAre vs ns ∧ ns.length = 1 + min i 6 ∧ y = some (.int (16 * 289 ^ (4 : Int).toNat) tm) ∧
      vals' = [some (.ref sl), y, some (.ref D), x, none, none, none, none, none, none, none] ∧ ms' = [(D, listOf vs.toArray n)])
    ⟨_, _, _, [(sns.length : Int)], _, _, .cons _ _ .nil, rfl, rfl, rfl, rfl⟩ ?_ ?_
  · clear S
    intro E' i tk z₁ vals' I o ms' s hi' le hJ S
    obtain ⟨x, y, vs, ns, n, tm, hI, hn, rfl, rfl, rfl⟩ := hJ
    obtain ⟨e, tke, he1, he2⟩ := ints_get hi hi'
    have hIl := hI.length
    refine wpAny_assign_Name ?_
    repeat walk_at "zz"
    refine exC ?_
    repeat walk_at "zz"
    refine iteB ?_ ?_
    · intro hlt
      refine exC ?_
      repeat walk_at "zz"
      with_reducible rename St _ _ _ _ _ _ _ _ => S
      refine getAppend S (.tail _ (.head _)) ?_
      repeat walk_at "zz"
      with_reducible rename St _ _ _ _ _ _ _ _ => S
      refine itemZ ((hz.mono le).at S) (by omega) (by omega) (by simpa using he1) ?_
      repeat walk_at "zz"
      with_reducible rename St _ _ _ _ _ _ _ _ => S
      refine app1 S (by rw [List.size_toArray, sizeLine_eq]; omega) ?_
      clear S; intro s S
      rw [List.push_toArray] at S
      repeat walk_at "z"
      with_reducible rename St _ _ _ _ _ _ _ _ => S
      have hlt := of_decide_eq_true hlt
      refine ⟨_, _, _, Le.refl _, ⟨_, _, _, ns ++ [e.fmod (16 * 289 ^ (4 : Int).toNat)], _, _, ?_, ?_, rfl, rfl, rfl⟩, S⟩
      · exact IntsAre.append hI (.cons _ _ .nil)
      · rw [List.length_append, List.length_singleton]; omega
    · intro hge
      have hge := of_decide_eq_false hge
      have hm := fmod_pos (a := (i : Int)) (b := 6) (by decide)
      have hk : (1 + (i : Int).fmod 6).toNat < ns.length := by omega
      obtain ⟨d, tkd, hd1, hd2⟩ := ints_get hI hk
      refine exC ?_
      repeat walk_at "zz"
      with_reducible rename St _ _ _ _ _ _ _ _ => S
      refine itemZ (isLm S (.tail _ (.head _))) (by omega) (by omega) (by simpa using hd1) ?_
      repeat walk_at "zz"
      with_reducible rename St _ _ _ _ _ _ _ _ => S
      refine itemZ ((hz.mono le).at S) (by omega) (by omega) (by simpa using he1) ?_
      repeat walk_at "zz"
      with_reducible rename St _ _ _ _ _ _ _ _ => S
      have hn' : 1 + (i : Int).fmod 6 < (vs.toArray.size : Int) := by rw [List.size_toArray]; omega
      refine setAt (pre := [(I, o)]) S (by omega) (by omega) hn' ?_
      clear S; intro s S
      repeat walk_at "z"
      with_reducible rename St _ _ _ _ _ _ _ _ => S
      rw [List.setIfInBounds_toArray] at S
      refine ⟨_, _, _, Le.refl _, ⟨_, _, _, ns.set (1 + (i : Int).fmod 6).toNat ((d + e).fmod (16 * 289 ^ (4 : Int).toNat)), _, _, ints_set hI _ _ _, ?_, rfl, rfl, rfl⟩, S⟩
      rw [List.length_set]; omega
  · clear S
    intro z₁ vals' ms' s le hJ S
    obtain ⟨x, y, vs, ns, n, tm, hI, hn, rfl, rfl, rfl⟩ := hJ
    refine nqN ?_
    exact h z₁ s D vs ns n x _ le hI (by omega) (by omega) S
end
end

section
open PySem.Builtin.Str

/-- frames and kids point ahead -/
structure Good (i : Nat) (rs : List Nat) (ks : List (List Nat)) : Prop where
  frm : ∀ (j f : Nat), rs[j]? = some f → f = 0 ∨ (j < f ∧ f < i)
  kid : ∀ (j : Nat) (l : List Nat), ks[j]? = some l → (∀ x ∈ l, j < x ∧ x < i) ∧ l.Pairwise (· < ·)
theorem Good.nil {i : Nat} : Good i [] [] := ⟨fun j f h => by simp at h, fun j l h => by simp at h⟩
theorem Good.up {i : Nat} {rs : List Nat} {ks : List (List Nat)} (h : Good i rs ks) : Good (i + 1) rs ks := by
  refine ⟨fun j f hj => ?_, fun j l hj => ⟨fun x hx => ?_, (h.kid j l hj).2⟩⟩
  · have := h.frm j f hj; omega
  · have := (h.kid j l hj).1 x hx; omega
theorem Good.frame {i a : Nat} {rs : List Nat} {ks : List (List Nat)} (h : Good i rs ks) (ha : a < i) : Good (i + 1) (rs.set a i) ks := by
  refine ⟨fun j f hj => ?_, h.up.kid⟩
  rw [List.getElem?_set] at hj
  split at hj
  · rename_i e
    split at hj
    · cases hj; omega
    · cases hj
  · exact h.up.frm j f hj
theorem Good.addKid {i a : Nat} {rs : List Nat} {ks : List (List Nat)} {l : List Nat} (h : Good i rs ks) (hl : ks[a]? = some l) (ha : a < i) : Good (i + 1) rs (ks.set a (l ++ [i])) := by
  refine ⟨h.up.frm, fun j l' hj => ?_⟩
  rw [List.getElem?_set] at hj
  split at hj
  · rename_i e
    subst e
    split at hj
    · cases hj
      obtain ⟨h1, h2⟩ := h.kid a l hl
      refine ⟨fun x hx => ?_, ?_⟩
      · rcases List.mem_append.mp hx with hx | hx
        · have := h1 x hx; omega
        · rw [List.mem_singleton.mp hx]; omega
      · rw [List.pairwise_append]
        refine ⟨h2, by simp, fun x hx y hy => ?_⟩
        rw [List.mem_singleton.mp hy]
        exact (h1 x hx).2
    · cases hj
  · exact h.up.kid j l' hj
theorem Good.new {i : Nat} {rs : List Nat} {ks : List (List Nat)} (h : Good i rs ks) : Good i (rs ++ [0]) (ks ++ [[]]) := by
  refine ⟨fun j f hj => ?_, fun j l hj => ?_⟩
  · rw [List.getElem?_append] at hj
    split at hj
    · exact h.frm j f hj
    · have := List.mem_of_getElem? hj
      exact .inl (List.mem_singleton.mp this)
  · rw [List.getElem?_append] at hj
    split at hj
    · exact h.kid j l hj
    · have := List.mem_of_getElem? hj
      rw [List.mem_singleton.mp this]
      exact ⟨fun x hx => by simp at hx, .nil⟩

/-- the kids' lists, each its own thing -/
inductive KidsAre : List Value → List (Addr × Obj) → List (List Nat) → Prop
  | nil : KidsAre [] [] []
  | cons {vs cs ks us l} (c : Addr) (m : Nat) : IntsAre us (l.map Int.ofNat) → KidsAre vs cs ks → KidsAre (.ref c :: vs) ((c, listOf us.toArray m) :: cs) (l :: ks)
theorem KidsAre.len {vs : List Value} {cs : List (Addr × Obj)} {ks : List (List Nat)} (h : KidsAre vs cs ks) : vs.length = ks.length := by
  induction h with
  | nil => rfl
  | cons c m hi h ih => simp [ih]
theorem KidsAre.snoc {vs : List Value} {cs : List (Addr × Obj)} {ks : List (List Nat)} (h : KidsAre vs cs ks) (c : Addr) (m : Nat) : KidsAre (vs ++ [.ref c]) (cs ++ [(c, listOf [].toArray m)]) (ks ++ [[]]) := by
  induction h with
  | nil => exact .cons c m .nil .nil
  | cons c m hi h ih => exact .cons c m hi ih
theorem KidsAre.at {vs : List Value} {cs : List (Addr × Obj)} {ks : List (List Nat)} (h : KidsAre vs cs ks) : ∀ {a : Nat}, a < ks.length → ∃ (pre : List (Addr × Obj)) (c : Addr) (us : List Value) (m : Nat) (post : List (Addr × Obj)) (l : List Nat), vs[a]? = some (.ref c) ∧ cs = pre ++ (c, listOf us.toArray m) :: post ∧ IntsAre us (l.map Int.ofNat) ∧ ks[a]? = some l ∧
    ∀ (us' : List Value) (m' : Nat) (l' : List Nat), IntsAre us' (l'.map Int.ofNat) → KidsAre vs (pre ++ (c, listOf us'.toArray m') :: post) (ks.set a l') := by
  induction h with
  | nil => intro a ha; simp at ha
  | cons c m hi h ih =>
    intro a ha
    cases a with
    | zero => exact ⟨[], c, _, m, _, _, rfl, rfl, hi, rfl, fun us' m' l' hi' => .cons c m' hi' h⟩
    | succ a =>
      obtain ⟨pre, c', us, m2, post, l, h1, h2, h3, h4, h5⟩ := ih (a := a) (by simpa using ha)
      subst h2
      exact ⟨_ :: pre, c', us, m2, post, l, by simpa using h1, rfl, h3, by simpa using h4, fun us' m' l' hi' => .cons c m hi (h5 us' m' l' hi')⟩
theorem KidsAre.freeze {h₀ : Heap} {g : Shared} {L : Addr} {K : List Str} {vals : List (Option Value)} {s : Shared} {vs : List Value} {cs : List (Addr × Obj)} {ks : List (List Nat)} (h : KidsAre vs cs ks) : ∀ {z : PHeap}, St h₀ g z L K vals cs s →
    ∃ z', Le z z' ∧ St h₀ g z' L K vals [] s ∧ ∀ (i : Nat) (v : Value), vs[i]? = some v → ∃ (l : List Nat) (c : Addr) (us : List Value) (m : Nat), ks[i]? = some l ∧ v = .ref c ∧ z' c = some (listOf us.toArray m) ∧ IntsAre us (l.map Int.ofNat) := by
  induction h with
  | nil => intro z S; exact ⟨z, Le.refl _, S, fun i v hv => by simp at hv⟩
  | cons c m hi h ih =>
    intro z S
    obtain ⟨z1, le1, hz1, _, S1⟩ := S.freeze
    obtain ⟨z2, le2, S2, h2⟩ := ih S1
    refine ⟨z2, le1.trans le2, S2, fun i v hv => ?_⟩
    cases i with
    | zero =>
      simp at hv
      exact ⟨_, c, _, m, rfl, hv.symm, le2 _ _ hz1, hi⟩
    | succ i =>
      obtain ⟨l, c', us, m', p, q⟩ := h2 i v (by simpa using hv)
      exact ⟨l, c', us, m', by simpa using p, q⟩

section
variable {w : World} {A : Around} {E : Value → Shared → Prop} {h₀ : Heap} {g : Shared} {z z' : PHeap} {L : Addr} {K Gs : List Str} {vals : List (Option Value)} {ms : List (Addr × Obj)} {s : Shared} {env : Env}
theorem truthL {l : Addr} {vs : List Value} {n : Nat} {Q : Bool → Shared → Prop} (S : St h₀ g z L K vals ms s) (hm : (l, listOf vs.toArray n) ∈ ms) (hsz : vs.length ≤ 2 ^ 40) (h : ∀ s', St h₀ g z L K vals ms s' → Q (!vs.isEmpty) s') : wpAny (model P1 w) A (truthy (.ref l)) Q E s :=
  wpAny_truthy_list (isLm S hm) (by rw [List.size_toArray]; omega) (by rw [List.isEmpty_toArray]; exact h _ (S.tok _))
end
end

section
open PySem.Builtin.Str

def forBody : Option Stmt → List Stmt
  | some (.For _ _ b _ _) => b
  | _ => []
def ifBody : Option Stmt → List Stmt
  | some (.If _ b _ _) => b
  | _ => []
def ifElse : Option Stmt → List Stmt
  | some (.If _ _ b _) => b
  | _ => []
/-- the turn over the drawn numbers -/
def numB : List Stmt := forBody (bodyOf P1 8)[6]?
/-- what a number does that has one above it -/
def aboveB : List Stmt := ifBody numB[0]?
def kidB : List Stmt := ifElse aboveB[1]?
section
variable {w : World} {A : Around} {E : Value → Shared → Prop} {h₀ : Heap} {mg mb : Str → Option Value} {g : Shared} {z z' : PHeap} {L : Addr} {K Gs : List Str} {vals : List (Option Value)} {ms : List (Addr × Obj)} {s : Shared} {env : Env}

set_option maxHeartbeats 8000000 in
theorem law_kid (G : G1 h₀ mg mb) (O : EnvOk env L K8 Gs8) {v0 v1 v2 v3 v7 : Option Value} {F R D I : Addr} {ao : Obj} {fvs rvs kvs : List Value} {nf nr nk a : Nat} {t8 : Tok} {fs : List Int} {rs : List Nat} {ks : List (List Nat)} {cs : List (Addr × Obj)} {Q : Flow → Shared → Prop}
    (hF : IntsAre fvs fs) (hf7 : fs.length ≤ 7) (hK : KidsAre kvs cs ks) (hG : Good fs.length rs ks) (ha : a < ks.length) (hkl : ks.length = fs.length)
    (S : St h₀ g z L K8 [v0, v1, v2, v3, some (.ref F), some (.ref R), some (.ref D), v7, some (.int (a : Nat) t8), none, none] ((I, ao) :: (D, listOf kvs.toArray nk) :: (R, listOf rvs.toArray nr) :: (F, listOf fvs.toArray nf) :: cs) s)
    (h : ∀ (s' : Shared) (cs' : List (Addr × Obj)) (ks' : List (List Nat)), KidsAre kvs cs' ks' → ks'.length = ks.length → Good (fs.length + 1) rs ks' →
      St h₀ g z L K8 [v0, v1, v2, v3, some (.ref F), some (.ref R), some (.ref D), v7, some (.int (a : Nat) t8), none, none] ((I, ao) :: (D, listOf kvs.toArray nk) :: (R, listOf rvs.toArray nr) :: (F, listOf fvs.toArray nf) :: cs') s' → Q .next s') :
    wpAny (model P1 w) A (execs kidB env) Q E s := by
  obtain ⟨pre, c, us, m, post, l, h1, rfl, h3, h4, h5⟩ := hK.at ha
  have hl3 : us.length ≤ 1000000 := by
    have hq := hG.kid a l h4
    have e1 := psum_le (k := fs.length) l a (by omega) hq.1 hq.2
    have e2 : 3 ^ (fs.length - 1 - a) ≤ 3 ^ 7 := Nat.pow_le_pow_right (by decide) (by omega)
    have e3 := len_psum (k := fs.length) l
    rw [h3.length, List.length_map]
    omega
  refine exC ?_
  repeat walk_at "zz"
  with_reducible rename St _ _ _ _ _ _ _ _ => S
  refine itemZ (x := .ref c) (isLm S (.tail _ (.head _))) (by omega) (by omega) (by simpa using h1) ?_
  repeat walk_at "zz"
  with_reducible rename St _ _ _ _ _ _ _ _ => S
  refine getAppend (its := us.toArray) (n := m) S (by simp) ?_
  repeat walk_at "zz"
  with_reducible rename St _ _ _ _ _ _ _ _ => S
  refine lenL S (isLm S (.tail _ (.tail _ (.tail _ (.head _))))) (by rw [List.size_toArray, hF.length, sizeLine_eq]; omega) ?_
  clear S; intro t1 s S
  repeat walk_at "zz"
  with_reducible rename St _ _ _ _ _ _ _ _ => S
  rw [List.size_toArray, hF.length]
  refine appAt (pre := (I, ao) :: (D, listOf kvs.toArray nk) :: (R, listOf rvs.toArray nr) :: (F, listOf fvs.toArray nf) :: pre) (post := post) S (by rw [List.size_toArray, sizeLine_eq]; omega) ?_
  clear S; intro s S
  rw [List.push_toArray] at S
  repeat walk_at "z"
  with_reducible rename St _ _ _ _ _ _ _ _ => S
  have hI : IntsAre (us ++ [Value.int ((fs.length : Nat) : Int) t1]) ((l ++ [fs.length]).map Int.ofNat) := by
    rw [List.map_append]
    exact IntsAre.append h3 (.cons _ _ .nil)
  exact h _ _ (ks.set a (l ++ [fs.length])) (h5 _ (m + 1) _ hI) (by simp) (hG.addKid h4 (by omega)) S

theorem ints_at2 {vs : List Value} {l : List Nat} (h : IntsAre vs (l.map Int.ofNat)) {i : Nat} (hi : i < l.length) : ∃ j t, vs[i]? = some (.int (j : Nat) t) ∧ l[i]? = some j := by
  obtain ⟨d, t, h1, h2⟩ := ints_get h (i := i) (by simpa using hi)
  obtain ⟨j, t', e, hj⟩ := ints_at h rfl h1
  cases e
  exact ⟨j, t, h1, hj⟩

set_option maxHeartbeats 8000000 in
theorem law_above (G : G1 h₀ mg mb) (O : EnvOk env L K8 Gs8) {v0 v1 v2 v3 v8 : Option Value} {F R D I : Addr} {ao : Obj} {fvs rvs kvs : List Value} {nf nr nk : Nat} {e : Int} {te : Tok} {fs : List Int} {rs : List Nat} {ks : List (List Nat)} {cs : List (Addr × Obj)} {Q : Flow → Shared → Prop}
    (hF : IntsAre fvs fs) (hf7 : fs.length ≤ 7) (hf1 : 1 ≤ fs.length) (hR : IntsAre rvs (rs.map Int.ofNat)) (hK : KidsAre kvs cs ks) (hG : Good fs.length rs ks) (hkl : ks.length = fs.length) (hrl : rs.length = fs.length)
    (S : St h₀ g z L K8 [v0, v1, v2, v3, some (.ref F), some (.ref R), some (.ref D), some (.int e te), v8, none, none] ((I, ao) :: (D, listOf kvs.toArray nk) :: (R, listOf rvs.toArray nr) :: (F, listOf fvs.toArray nf) :: cs) s)
    (h : ∀ (s' : Shared) (cs' : List (Addr × Obj)) (ks' : List (List Nat)) (rs' : List Nat) (rvs' : List Value) (y8 : Option Value), KidsAre kvs cs' ks' → ks'.length = fs.length → IntsAre rvs' (rs'.map Int.ofNat) → rs'.length = fs.length → Good (fs.length + 1) rs' ks' →
      St h₀ g z L K8 [v0, v1, v2, v3, some (.ref F), some (.ref R), some (.ref D), some (.int e te), y8, none, none] ((I, ao) :: (D, listOf kvs.toArray nk) :: (R, listOf rvs'.toArray nr) :: (F, listOf fvs.toArray nf) :: cs') s' → Q .next s') :
    wpAny (model P1 w) A (execs aboveB env) Q E s := by
  refine exC ?_
  repeat walk_at "zz"
  with_reducible rename St _ _ _ _ _ _ _ _ => S
  refine divI S (by decide) (PyProof.noPylong_small (by decide)) ?_
  clear S; intro t1 s S
  repeat walk_at "zz"
  with_reducible rename St _ _ _ _ _ _ _ _ => S
  refine lenL S (isLm S (.tail _ (.tail _ (.tail _ (.head _))))) (by rw [List.size_toArray, hF.length, sizeLine_eq]; omega) ?_
  clear S; intro t2 s S
  rw [List.size_toArray, hF.length]
  repeat walk_at "zz"
  with_reducible rename St _ _ _ _ _ _ _ _ => S
  refine modI S (by omega) ?_
  clear S; intro t3 s S
  have hm := fmod_pos (a := (e.fmod 16).fdiv 2) (b := (fs.length : Int)) (by omega)
  obtain ⟨a, ha⟩ : ∃ a : Nat, ((e.fmod 16).fdiv 2).fmod (fs.length : Int) = a := ⟨_, (Int.toNat_of_nonneg hm.1).symm⟩
  rw [ha] at hm ⊢
  have haf : a < fs.length := by omega
  obtain ⟨f, tf, hf1, hf2⟩ := ints_at2 hR (i := a) (by omega)
  repeat walk_at "zz"
  refine exC ?_
  repeat walk_at "zz"
  refine iteB ?_ ?_
  · intro hodd
    repeat walk_at "zz"
    with_reducible rename St _ _ _ _ _ _ _ _ => S
    refine itemZ (x := .int (f : Nat) tf) (isLm S (.tail _ (.tail _ (.head _)))) (by omega) (by omega) (by simpa using hf1) ?_
    repeat walk_at "zz"
    refine iteB ?_ ?_
    · intro hf0
      repeat walk_at "zz"
      refine exC ?_
      repeat walk_at "zz"
      with_reducible rename St _ _ _ _ _ _ _ _ => S
      refine lenL S (isLm S (.tail _ (.tail _ (.tail _ (.head _))))) (by rw [List.size_toArray, hF.length, sizeLine_eq]; omega) ?_
      clear S; intro t4 s S
      rw [List.size_toArray, hF.length]
      repeat walk_at "zz"
      with_reducible rename St _ _ _ _ _ _ _ _ => S
      have hsz : (a : Int) < (rvs.toArray.size : Int) := by rw [List.size_toArray, hR.length, List.length_map]; omega
      refine setAt (pre := [(I, ao), (D, listOf kvs.toArray nk)]) S (by omega) (by omega) hsz ?_
      clear S; intro s S
      repeat walk_at "z"
      with_reducible rename St _ _ _ _ _ _ _ _ => S
      rw [List.setIfInBounds_toArray] at S
      have hI : IntsAre (rvs.set a (Value.int ((fs.length : Nat) : Int) t4)) ((rs.set a fs.length).map Int.ofNat) := by
        rw [List.map_set]; exact ints_set hR _ _ _
      exact h _ _ _ (rs.set a fs.length) _ _ hK hkl hI (by rw [List.length_set]; exact hrl) (hG.frame haf) S
    · intro _
      repeat walk_at "zz"
      with_reducible rename St _ _ _ _ _ _ _ _ => S
      refine (show wpAny (model P1 w) A (execs kidB env) _ E _ from law_kid G O hF hf7 hK hG (by omega) hkl S ?_)
      clear S; intro s cs' ks' g1 g2 g3 S
      repeat walk_at "z"
      exact h _ _ _ _ _ _ g1 (by omega) hR hrl g3 S
  · intro _
    repeat walk_at "zz"
    with_reducible rename St _ _ _ _ _ _ _ _ => S
    refine (show wpAny (model P1 w) A (execs kidB env) _ E _ from law_kid G O hF hf7 hK hG (by omega) hkl S ?_)
    clear S; intro s cs' ks' g1 g2 g3 S
    repeat walk_at "z"
    exact h _ _ _ _ _ _ g1 (by omega) hR hrl g3 S
end
end

section
open PySem.Builtin.Str

section
variable {w : World} {A : Around} {E : Value → Shared → Prop} {h₀ : Heap} {mg mb : Str → Option Value} {g : Shared} {z z' : PHeap} {L : Addr} {K Gs : List Str} {vals : List (Option Value)} {ms : List (Addr × Obj)} {s : Shared} {env : Env}

theorem St.last4 {c a b d e : Addr × Obj} {cs : List (Addr × Obj)} (S : St h₀ g z L K vals (c :: a :: b :: d :: e :: cs) s) : St h₀ g z L K vals (a :: b :: d :: e :: (cs ++ [c])) s := S.perm (List.perm_append_singleton c (a :: b :: d :: e :: cs))
/-- what the loop over the drawn numbers has done -/
def NumJ (v0 v1 v2 v3 : Option Value) (F R D : Addr) (i : Nat) (vals' : List (Option Value)) (ms' : List (Addr × Obj)) : Prop :=
  ∃ (fvs rvs kvs : List Value) (nf nr nk : Nat) (fs : List Int) (rs : List Nat) (ks : List (List Nat)) (cs : List (Addr × Obj)) (y7 y8 : Option Value),
    IntsAre fvs fs ∧ fs.length = i ∧ IntsAre rvs (rs.map Int.ofNat) ∧ rs.length = i ∧ KidsAre kvs cs ks ∧ ks.length = i ∧ Good i rs ks ∧
    vals' = [v0, v1, v2, v3, some (.ref F), some (.ref R), some (.ref D), y7, y8, none, none] ∧ ms' = (D, listOf kvs.toArray nk) :: (R, listOf rvs.toArray nr) :: (F, listOf fvs.toArray nf) :: cs

set_option maxHeartbeats 8000000 in
theorem law_num (G : G1 h₀ mg mb) (O : EnvOk env L K8 Gs8) {v0 v1 v2 v3 : Option Value} {F R D I : Addr} {ao : Obj} {i : Nat} {e : Int} {te : Tok} {vals' : List (Option Value)} {ms' : List (Addr × Obj)} {C : Shared → Prop} {Q : Flow → Shared → Prop}
    (hi : i < 7) (hJ : NumJ v0 v1 v2 v3 F R D i vals' ms') (S : St h₀ g z L K8 vals' ((I, ao) :: ms') s)
    (h : ∀ (s' : Shared) vals'' ms'', NumJ v0 v1 v2 v3 F R D (i + 1) vals'' ms'' → St h₀ g z L K8 vals'' ((I, ao) :: ms'') s' → C s') :
    wpAny (model P1 w) A (storeName env (Str.ofString "number") (.int e te)) (fun _ s₂ => wpAny (model P1 w) A (execs numB env) (TurnQ C Q) E s₂) E s := by
  obtain ⟨fvs, rvs, kvs, nf, nr, nk, fs, rs, ks, cs, y7, y8, hF, rfl, hR, hrl, hK, hkl, hG, rfl, rfl⟩ := hJ
  repeat walk_at "zz"
  with_reducible rename St _ _ _ _ _ _ _ _ => S
  refine exJ (fun s' => ∃ (cs' : List (Addr × Obj)) (ks' : List (List Nat)) (rs' : List Nat) (rvs' : List Value) (y8 : Option Value), KidsAre kvs cs' ks' ∧ ks'.length = fs.length ∧ IntsAre rvs' (rs'.map Int.ofNat) ∧ rs'.length = fs.length ∧ Good (fs.length + 1) rs' ks' ∧
      St h₀ g z L K8 [v0, v1, v2, v3, some (.ref F), some (.ref R), some (.ref D), some (.int e te), y8, none, none] ((I, ao) :: (D, listOf kvs.toArray nk) :: (R, listOf rvs'.toArray nr) :: (F, listOf fvs.toArray nf) :: cs') s') ?_ ?_
  · intro Q' hQ'
    repeat walk_at "zz"
    with_reducible rename St _ _ _ _ _ _ _ _ => S
    refine truthL S (.tail _ (.tail _ (.tail _ (.head _)))) (by rw [hF.length]; omega) ?_
    clear S; intro s S
    refine iteB ?_ ?_
    · intro hne
      have hpos : 1 ≤ fs.length := by
        rw [← hF.length]
        cases fvs with
        | nil => simp at hne
        | cons a l => simp
      refine (show wpAny (model P1 w) A (execs aboveB env) _ E _ from law_above G O hF (by omega) hpos hR hK hG hkl hrl S ?_)
      clear S; intro s cs' ks' rs' rvs' y8 g1 g2 g3 g4 g5 S
      exact hQ' _ ⟨cs', ks', rs', rvs', y8, g1, g2, g3, g4, g5, S⟩
    · intro _
      repeat walk_at "z"
      exact hQ' _ ⟨cs, ks, rs, rvs, _, hK, hkl, hR, hrl, hG.up, S⟩
  · clear S hK hR hG hkl hrl
    intro s hJ
    obtain ⟨cs, ks, rs, rvs, y8, hK, hkl, hR, hrl, hG, S⟩ := hJ
    refine exC ?_
    repeat walk_at "zz"
    with_reducible rename St _ _ _ _ _ _ _ _ => S
    refine getAppend S (.tail _ (.tail _ (.tail _ (.head _)))) ?_
    repeat walk_at "zz"
    with_reducible rename St _ _ _ _ _ _ _ _ => S
    refine divI S (by decide) (PyProof.noPylong_small (by decide)) ?_
    clear S; intro t1 s S
    repeat walk_at "zz"
    with_reducible rename St _ _ _ _ _ _ _ _ => S
    refine app3 S (by rw [List.size_toArray, hF.length, sizeLine_eq]; omega) ?_
    clear S; intro s S
    rw [List.push_toArray] at S
    repeat walk_at "zz"
    refine exC ?_
    repeat walk_at "zz"
    with_reducible rename St _ _ _ _ _ _ _ _ => S
    refine getAppend S (.tail _ (.tail _ (.head _))) ?_
    repeat walk_at "zz"
    with_reducible rename St _ _ _ _ _ _ _ _ => S
    refine app2 S (by rw [List.size_toArray, hR.length, List.length_map, sizeLine_eq]; omega) ?_
    clear S; intro s S
    rw [List.push_toArray] at S
    repeat walk_at "zz"
    refine exC ?_
    repeat walk_at "zz"
    with_reducible rename St _ _ _ _ _ _ _ _ => S
    refine getAppend S (.tail _ (.head _)) ?_
    repeat walk_at "zz"
    with_reducible rename St _ _ _ _ _ _ _ _ => S
    refine newL S ?hsz ?_
    case hsz => exact Nat.le_of_ble_eq_true rfl
    clear S; intro c s S
    repeat walk_at "zz"
    with_reducible rename St _ _ _ _ _ _ _ _ => S
    refine app2 S (by rw [List.size_toArray, hK.len, sizeLine_eq]; omega) ?_
    clear S; intro s S
    rw [List.push_toArray] at S
    repeat walk_at "z"
    with_reducible rename St _ _ _ _ _ _ _ _ => S
    replace S := S.last4
    refine h _ _ _ ⟨_, _, _, _, _, _, fs ++ [e.fdiv 16], rs ++ [0], ks ++ [[]], _, _, _, IntsAre.append hF (.cons _ _ .nil), by simp, ?_, by simp [hrl], hK.snoc c 0, by simp [hkl], hG.new, rfl, rfl⟩ S
    rw [List.map_append]
    exact IntsAre.append hR (.cons _ _ .nil)

set_option maxHeartbeats 8000000 in
theorem law_b (G : G1 h₀ mg mb) (hh : A.handled = none) (O : EnvOk env L K8 Gs8) {sl Dr : Addr} {v1 v3 : Option Value} {vs : List Value} {ns : List Int} {n : Nat} {Q : Flow → Shared → Prop}
    (hI : IntsAre vs ns) (h1 : 1 ≤ ns.length) (h7 : ns.length ≤ 7)
    (S : St h₀ g z L K8 [some (.ref sl), v1, some (.ref Dr), v3, none, none, none, none, none, none, none] [(Dr, listOf vs.toArray n)] s)
    (h : ∀ (z' : PHeap) (s' : Shared) (F R D : Addr) (k : Nat) (rs : List Nat) (ks : List (List Nat)) (y7 y8 : Option Value), Le z z' → 1 ≤ k → Lists z' F R D k rs ks →
      St h₀ g z' L K8 [some (.ref sl), v1, some (.ref Dr), v3, some (.ref F), some (.ref R), some (.ref D), y7, y8, none, none] [] s' →
      wpAny (model P1 w) A (execs ((bodyOf P1 8).drop 7) env) Q E s') :
    wpAny (model P1 w) A (execs ((bodyOf P1 8).drop 3) env) Q E s := by
  obtain ⟨z1, le1, hzD, _, S⟩ := S.freeze
  refine exC ?_
  repeat walk_at "zz"
  with_reducible rename St _ _ _ _ _ _ _ _ => S
  refine newL S ?hsz ?_
  case hsz => exact Nat.le_of_ble_eq_true rfl
  clear S; intro F s S
  repeat walk_at "zz"
  refine exC ?_
  repeat walk_at "zz"
  with_reducible rename St _ _ _ _ _ _ _ _ => S
  refine newL S ?hsz ?_
  case hsz => exact Nat.le_of_ble_eq_true rfl
  clear S; intro R s S
  repeat walk_at "zz"
  refine exC ?_
  repeat walk_at "zz"
  with_reducible rename St _ _ _ _ _ _ _ _ => S
  refine newL S ?hsz ?_
  case hsz => exact Nat.le_of_ble_eq_true rfl
  clear S; intro D s S
  repeat walk_at "zz"
  refine exC ?_
  repeat walk_at "zz"
  with_reducible rename St _ _ _ _ _ _ _ _ => S
  refine forL S hh hzD (fun i z' vals' ms' => NumJ (some (.ref sl)) v1 (some (.ref Dr)) v3 F R D i vals' ms') ⟨[], [], [], _, _, _, [], [], [], [], _, _, .nil, rfl, .nil, rfl, .nil, rfl, .nil, rfl, rfl⟩ ?_ ?_
  · clear S
    intro E' i v z₁ vals' I o ms' s hv le hJ S
    have hlt : i < ns.length := by rw [← hI.length]; exact (List.getElem?_eq_some_iff.mp hv).1
    obtain ⟨d, td, hd1, _⟩ := ints_get hI hlt
    rw [hd1] at hv
    cases hv
    refine wpAny_assign_Name ?_
    refine (show wpAny (model P1 w) A (storeName env (Str.ofString "number") _) (fun _ s₂ => wpAny (model P1 w) A (execs numB env) (TurnQ _ _) E' s₂) E' _ from law_num G O (by omega) hJ S ?_)
    intro s' vals'' ms'' hJ' S'
    exact ⟨z₁, vals'', ms'', Le.refl _, hJ', S'⟩
  · clear S
    intro z₁ vals' ms' s le hJ S
    obtain ⟨fvs, rvs, kvs, nf, nr, nk, fs, rs, ks, cs, y7, y8, hF, hfl, hR, hrl, hK, hkl, hG, rfl, rfl⟩ := hJ
    obtain ⟨z2, le2, hz2, _, S⟩ := S.freeze
    obtain ⟨z3, le3, hz3, _, S⟩ := S.freeze
    obtain ⟨z4, le4, hz4, _, S⟩ := S.freeze
    obtain ⟨z5, le5, S, hks⟩ := hK.freeze S
    refine nqN ?_
    rw [hI.length] at hfl hrl hkl hG
    refine h z5 s F R D ns.length rs ks y7 y8 (le1.trans (le.trans (le2.trans (le3.trans (le4.trans le5))))) h1 ?_ S
    exact ⟨h7, ⟨fvs, nf, fs, le5 _ _ hz4, hF, hfl⟩, ⟨rvs, nr, le5 _ _ (le4 _ _ hz3), hR⟩, hrl, ⟨kvs, nk, le5 _ _ (le4 _ _ (le3 _ _ hz2)), by rw [hK.len]; exact hkl, hks⟩, hG.frm, hG.kid⟩
end
end

section
open PySem.Builtin.Str

section
variable {w : World} {A : Around} {E : Value → Shared → Prop} {h₀ : Heap} {mg mb : Str → Option Value} {g : Shared} {z z' : PHeap} {L : Addr} {K Gs : List Str} {vals : List (Option Value)} {ms : List (Addr × Obj)} {s : Shared} {env : Env}

set_option maxHeartbeats 8000000 in
theorem law_c (G : G1 h₀ mg mb) (hh : A.handled = none) (hd : A.depth ≤ 700) (hu : A.units + 64 < cLine) (O : EnvOk env L K8 Gs8) {v0 v1 v2 v3 y7 y8 : Option Value} {F R D : Addr} {k : Nat} {rs : List Nat} {ks : List (List Nat)} {Q : Flow → Shared → Prop}
    (hk : 1 ≤ k) (hL : Lists z F R D k rs ks)
    (S : St h₀ g z L K8 [v0, v1, v2, v3, some (.ref F), some (.ref R), some (.ref D), y7, y8, none, none] [] s)
    (h : ∀ s', Keeps g s' → Q (.ret (.bool true)) s') :
    wpAny (model P1 w) A (execs ((bodyOf P1 8).drop 7) env) Q E s := by
  have hk7 := hL.small
  refine exC ?_
  repeat walk_at "zz"
  with_reducible rename St _ _ _ _ _ _ _ _ => S
  refine ldG S O (by decide) G.gn G.g36 ?_
  obtain ⟨oc', od, osl, name, qual, kV, doc, pm, an, cdv, ct, ho, hcd⟩ := G.f36
  refine callWith_fn ho rfl ?_ rfl
  repeat walk_at "zz"
  with_reducible rename St _ _ _ _ _ _ _ _ => S
  refine ⟨S.base, useSpec S (tree_spec G 8 A _ F R D k 0 _ rs ks hh (by omega) S.base (hL.mono S.keep) (by omega) (by omega)) ?_⟩
  intro v z₁ s₁ le₁ len₁ S₁ hv₁
  obtain ⟨d, n, rfl, hE, hOk, hdep, hcnt, hrep⟩ := hv₁
  have hrep := (hrep.mono len₁).mono (nw_le _ _)
  have hdep : n.dep ≤ 6 := by omega
  have hcnt : n.cnt ≤ 729 := Nat.le_trans hcnt (Nat.le_trans (Nat.pow_le_pow_right (n := 3) (j := 6) (by decide) (by omega)) (by decide))
  have hlen : n.page.length ≤ 1048576 := by
    have := (N.len_page n 6 hdep hOk).1 hE
    omega
  clear S
  repeat walk_at "zz"
  refine exC ?_
  repeat walk_at "zz"
  with_reducible rename St _ _ _ _ _ _ _ _ => S
  refine ldG S O (by decide) G.gn G.g43 ?_
  obtain ⟨oc2, od2, osl2, name2, qual2, kV2, doc2, pm2, an2, cdv2, ct2, ho2, hcd2⟩ := G.f43
  refine callWith_fn ho2 rfl ?_ rfl
  repeat walk_at "zz"
  with_reducible rename St _ _ _ _ _ _ _ _ => S
  refine ⟨S.base, useSpec S (page_spec G 7 A _ d n hh (by omega) S.base hE hOk (by omega) hdep hcnt (hrep.mono S.keep)) ?_⟩
  intro v z₂ s₂ le₂ len₂ S₂ hv₂
  obtain ⟨tw, rfl⟩ := hv₂
  clear S
  repeat walk_at "zz"
  refine exC ?_
  repeat walk_at "zz"
  with_reducible rename St _ _ _ _ _ _ _ _ => S
  refine ldG S O (by decide) G.gn G.g57 ?_
  obtain ⟨oc3, od3, osl3, name3, qual3, kV3, doc3, pm3, an3, cdv3, ct3, ho3, hcd3⟩ := G.f57
  refine callWith_fn ho3 rfl ?_ rfl
  repeat walk_at "zz"
  with_reducible rename St _ _ _ _ _ _ _ _ => S
  refine ⟨S.base, useSpec S (read_spec G 7 A _ n.page [] [] n _ _ hh (by omega) S.base (by simp) hlen hE hOk (by omega) hdep hcnt) ?_⟩
  intro v z₃ s₃ le₃ len₃ S₃ hv₃
  obtain ⟨T, e, tk, rfl, hT, hrep3⟩ := hv₃
  have hT := nw_le _ _ _ _ (len₃ _ _ hT)
  rw [show ([] : List Nat).length + n.page.length = n.page.length from Nat.zero_add _] at hT
  have hrep3 := (hrep3.mono len₃).mono (nw_le _ _)
  clear S
  repeat walk_at "zz"
  with_reducible rename St _ _ _ _ _ _ _ _ => S
  refine lenS S (by omega) ?_
  clear S; intro t5 s S
  repeat walk_at "zz"
  with_reducible rename St _ _ _ _ _ _ _ _ => S
  refine newT S ?hsz ?_
  case hsz => exact Nat.le_of_ble_eq_true rfl
  clear S; intro U s S
  have hU := (S.own _ (.head _)).1
  replace S := S.drop
  refine pair_eq (S.keep _ _ hT) hU (hrep3.mono S.keep) ((hrep.mono (le₂.trans le₃)).mono S.keep) hE hOk hdep hu ?_
  repeat walk_at "zz"
  exact h _ S.keeps

theorem law_all (G : G1 h₀ mg mb) (hh : A.handled = none) (hd : A.depth ≤ 700) (hu : A.units + 64 < cLine) (O : EnvOk env L K8 Gs8) {sl : Addr} {svs : List Value} {sns : List Int} {Q : Flow → Shared → Prop}
    (S : St h₀ g z L K8 [some (.ref sl), none, none, none, none, none, none, none, none, none, none] [] s)
    (hz : zList z sl svs) (hi : IntsAre svs sns) (hl : sns.length ≤ 63) (h : ∀ s', Keeps g s' → Q (.ret (.bool true)) s') :
    wpAny (model P1 w) A (execs (bodyOf P1 8) env) Q E s := by
  with_reducible refine law_a G hh O hz hi hl S ?_
  intro z1 s1 D vs ns n x y le1 hI h1 h7 S1
  with_reducible refine law_b G hh O hI h1 h7 S1 ?_
  intro z2 s2 F R D k rs ks y7 y8 le2 hk hL S2
  with_reducible exact law_c G hh hd hu O hk hL S2 h

theorem sc8 : (∀ x ∈ K8, (scopeOf P1 8).names.lookup x = some .local) ∧ (∀ x ∈ Gs8, (scopeOf P1 8).names.lookup x = some .globalImplicit) ∧ K8.Nodup ∧ ("__debug__" : Str) ∉ K8 ∧ ("__debug__" : Str) ∉ Gs8 := by
  refine ⟨?_, ?_, ?_, ?_, ?_⟩ <;> decide +kernel
theorem goodW_keeps {c : ClaimW} {cl : Str → Option Addr} {mean : ExcName → Option Value} {args : List WData} {s₁ s' : Shared} {b : Bool} (k : Keeps s₁ s') (hg : s₁.gens = #[]) (hn : ∀ cls, c.raises args cls = false) (hp : c.post args (.bool b) args = true) :
    GoodW c cl mean args s₁ (.ok (.ret (.bool b))) s' := by
  obtain ⟨h, tk, e⟩ := k.sh
  have := k.le
  subst e
  exact ⟨.inl ⟨.bool b, .bool b, [], rfl, hn, .bool b, hp, unshared_nil⟩, this, rfl, hg⟩
theorem env_ok {name : Str} {a : Addr} {cd : Value} : EnvOk (envOf name (scopeOf P1 8) L a cd) L K8 Gs8 := ⟨rfl, rfl, rfl, rfl, sc8.1, sc8.2.1, sc8.2.2.1, sc8.2.2.2.1, sc8.2.2.2.2⟩
theorem stE {s₁ : Shared} {h₁ : Heap} {v : Value} (F : Fr s₁.heap s₁.heap.objs.size h₁ fun x => List.lookup x [(Str.ofString "script", v)].reverse) :
    ∀ tk, St s₁.heap s₁ s₁.heap.get? s₁.heap.objs.size K8 [some v, none, none, none, none, none, none, none, none, none, none] [] { s₁ with heap := h₁, toks := tk } :=
  fun tk => St.start (Le.refl _) F.ns F.keep (binds_mOf (names := [Str.ofString "script"]) (rest := ["most", "drawn", "at", "fills", "framed", "kids", "number", "above", "tree", "page"]) (vs := [v]) 10 rfl (by decide))
end
end

end Mine
open Mine in
set_option maxHeartbeats 8000000 in
theorem PySem.Challenge.cw_sn0004_01_holds : PySem.Challenge.rw_sn0004_01.Holds := by
  w_on
  o_law
  k_head
  case hw => w_witness2
  w_strict (k_go0; (all_goals try k_fold)
            with_reducible rename Frag.In _ _ => KX
            with_reducible rename Top _ _ _ _ _ _ => T
            with_reducible rename Fr _ _ _ _ => F
            with_reducible rename Heap.IsList _ _ _ => hL
            with_reducible rename IntsAre _ _ => hI
            with_reducible rename ¬ (_ < _) => hcond
            have lim := T.nolimit
            have gn := T.g
            have bn := T.b
            have e1 := mg_of (n := Str.ofString "escape") (v := .ref 22) KX T.g rfl
            have e2 := mg_of (n := Str.ofString "_law_filling") (v := .ref 29) KX T.g rfl
            have e3 := mg_of (n := Str.ofString "_law_tree") (v := .ref 36) KX T.g rfl
            have e4 := mg_of (n := Str.ofString "_law_page") (v := .ref 43) KX T.g rfl
            have e5 := mg_of (n := Str.ofString "_law_plain") (v := .ref 50) KX T.g rfl
            have e6 := mg_of (n := Str.ofString "_law_read") (v := .ref 57) KX T.g rfl
            have e7 := mg_none_of (n := Str.ofString "len") KX T.g rfl
            have e8 := mg_none_of (n := Str.ofString "range") KX T.g rfl
            have e9 := mg_none_of (n := Str.ofString "isinstance") KX T.g rfl
            have e10 := mg_none_of (n := Str.ofString "str") KX T.g rfl
            have b1 := T.builtins (Str.ofString "len") (by decide)
            have b2 := T.builtins (Str.ofString "range") (by decide)
            have b3 := T.builtins (Str.ofString "isinstance") (by decide)
            have b4 := T.builtins (Str.ofString "str") (by decide)
            have f1 := FnIn.fn (p := P1) (i := 1) (dV := .ref 15) (f := 22) KX ⟨_, _, _, _, _, _, _, _, _, _, _, rfl, rfl⟩
            have f2 := FnIn.fn (p := P1) (i := 3) (dV := .none) (f := 29) KX ⟨_, _, _, _, _, _, _, _, _, _, _, rfl, rfl⟩
            have f3 := FnIn.fn (p := P1) (i := 4) (dV := .none) (f := 36) KX ⟨_, _, _, _, _, _, _, _, _, _, _, rfl, rfl⟩
            have f4 := FnIn.fn (p := P1) (i := 5) (dV := .none) (f := 43) KX ⟨_, _, _, _, _, _, _, _, _, _, _, rfl, rfl⟩
            have f5 := FnIn.fn (p := P1) (i := 6) (dV := .none) (f := 50) KX ⟨_, _, _, _, _, _, _, _, _, _, _, rfl, rfl⟩
            have f6 := FnIn.fn (p := P1) (i := 7) (dV := .none) (f := 57) KX ⟨_, _, _, _, _, _, _, _, _, _, _, rfl, rfl⟩
            have d15 := KX 15 (tupOf #[.bool true]) rfl
            have G : G1 _ _ _ := ⟨lim, gn, bn, e1, e2, e3, e4, e5, e6, e7, e8, e9, e10, b1.trans rfl, b2.trans rfl, b3.trans rfl, b4.trans rfl, f1, d15, f2, f3, f4, f5, f6⟩
            clear lim gn bn e1 e2 e3 e4 e5 e6 e7 e8 e9 e10 b1 b2 b3 b4 f1 f2 f3 f4 f5 f6 d15
            with_reducible rename ((PySem.Shared.gens _) = _) => hg
            have S := stE F
            have hz : zList _ _ _ := hL
            have hlen : (_ : List Int).length ≤ 63 := Int.ofNat_le.mp (Int.not_lt.mp hcond)
            show wpAny (model P1 _) _ (execs (bodyOf P1 8) (envOf _ (scopeOf P1 8) _ _ _)) _ _ _
            with_reducible refine law_all (env := envOf _ (scopeOf P1 8) _ _ _) G ?hh ?hd ?hu env_ok (S _) hz hI hlen ?hend
            case hh => rfl
            case hd => exact Nat.le_of_ble_eq_true rfl
            case hu => exact Nat.le_of_ble_eq_true rfl
            case hend =>
              intro s' k
              show GoodW _ _ _ _ _ (.ok (.ret (.bool true))) _
              refine goodW_keeps k hg (raisesW_false ?_) ?_
              · wrow_none_raised
              · first | wrow_post | kc_post)
