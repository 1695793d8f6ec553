import PyProof.Rows.All
import Wide.All
import OpenK.AllK
import Wide.FinOn
import PySem.Challenge.RW_bb0059_01
set_option Elab.async false
set_option linter.all false

namespace Mine
section
open PySem PySem.W PyProof.Rows
set_option maxRecDepth 100000
set_option maxHeartbeats 8000000
open_top hd for PySem.Challenge.rw_bb0059_01
end
end Mine

section
open PySem PySem.W PyProof.Rows PySem.Calls
set_option maxRecDepth 100000
set_option maxHeartbeats 8000000
namespace Mine

theorem fill0 (w : World) (h : Heap) : PySem.Challenge.rw_bb0059_01.Holds → (hd.heap_39 w.params).In h → True := by
  k_fill
  intros; trivial

/-- the surroundings of a call: the base (the text's own objects), what is new may be used, nothing of the base is -/
structure Cx (w : World) (mg mb : Str → Option Value) (P : Addr → Prop) (h₀ h : Heap) : Prop where
  K : (hd.heap_39 w.params).In h₀
  T : TopRead hd.view_39 (looseW hd.view_39 [Str.ofString "FQ"]) mg mb h₀
  st : h₀.StaysIn h
  fresh : ∀ a, h.get? a = none → P a
  off : ∀ a, P a → h₀.get? a = none

section
variable {prog : Program} {w : World} {A : Around} {s : Shared} {E : Value → Shared → Prop} {Q : Value → Shared → Prop} {R : Result → Shared → Prop} {mg mb : Str → Option Value} {P : Addr → Prop} {h₀ h h' g : Heap} {L : Addr} {m : Str → Option Value}
  {as news : List (Addr × Obj)}

theorem Cx.ofFrame (F : Fr g L h m) (X : (hd.heap_39 w.params).In g) (T : TopRead hd.view_39 (looseW hd.view_39 [Str.ofString "FQ"]) mg mb g) : Cx w mg mb (fun a => g.get? a = none ∧ a ≠ L) g h where
  K := X
  T := T
  st := F.keep
  fresh := fun a e => by
    refine ⟨?_, ?_⟩
    · cases q : g.get? a with
      | none => rfl
      | some o => rw [F.keep _ _ q] at e; cases e
    · rintro rfl
      obtain ⟨o, _, _, ho, _⟩ := F.ns
      rw [ho] at e; cases e
  off := fun a e => e.1

theorem Cx.grow (C : Cx w mg mb P h₀ h) (k : h.StaysIn h') : Cx w mg mb P h₀ h' where
  K := C.K
  T := C.T
  st := fun b o e => k b o (C.st b o e)
  fresh := fun a e => C.fresh a (by
    cases q : h.get? a with
    | none => rfl
    | some o => rw [k _ _ q] at e; cases e)
  off := C.off

/-- what a frame's ledger says after a call that lets all stand -/
theorem Fr.stay (F : Fr g L h m) (k : h.StaysIn h') : Fr g L h' m := ⟨F.ns.keeps k, fun b o e => k b o (F.keep b o e), F.above⟩
theorem News.stay (N : News g L h news) (k : h.StaysIn h') : News g L h' news := fun p hp => ⟨k _ _ (N p hp).1, (N p hp).2⟩

/-- the callee's ground -/
structure Ground0 (w : World) (mg mb : Str → Option Value) (P : Addr → Prop) (h₀ h g : Heap) (as : List (Addr × Obj)) : Prop where
  st : h₀.StaysIn g
  keep : ∀ b o, h.get? b = some o → (∃ p ∈ as, p.1 = b ∧ h.get? b = some p.2) ∨ g.get? b = some o
  sub : ∀ b o, g.get? b = some o → h.get? b = some o
  nothing : ∀ a, g.get? a = none → P a
  size : g.objs.size = h.objs.size
  hid : ∀ p ∈ as, g.get? p.1 = none

theorem Cx.ground (C : Cx w mg mb P h₀ h) (ha : ∀ p ∈ as, h.get? p.1 = some p.2 ∧ P p.1) : Ground0 w mg mb P h₀ h (hideAll h (as.map (·.1))) as where
  st := fun b o e => hideAll_get _ (C.st b o e) fun q => by
    obtain ⟨p, hp, rfl⟩ := List.mem_map.mp q
    rw [C.off _ (ha p hp).2] at e; cases e
  keep := fun b o e => by
    by_cases q : b ∈ as.map (·.1)
    · obtain ⟨p, hp, rfl⟩ := List.mem_map.mp q
      exact .inl ⟨p, hp, rfl, (ha p hp).1⟩
    · exact .inr (hideAll_get _ e q)
  sub := fun b o e => of_hideAll _ e
  nothing := fun a e => by
    by_cases q : a ∈ as.map (·.1)
    · obtain ⟨p, hp, rfl⟩ := List.mem_map.mp q
      exact (ha p hp).2
    · refine C.fresh a ?_
      cases r : h.get? a with
      | none => rfl
      | some o => rw [hideAll_get _ r q] at e; cases e
  size := hideAll_size _ _
  hid := fun p hp => hideAll_none _ (List.mem_map_of_mem hp)

/-- all of the caller's heap stands at the callee's end -/
theorem Ground0.stays (G : Ground0 w mg mb P h₀ h g as) (F : Fr g L h' m) (N : News g L h' news) (hs : ∀ p ∈ as, p ∈ news) : h.StaysIn h' := fun b o e => by
  rcases G.keep b o e with ⟨p, hp, rfl, q⟩ | q
  · rw [q] at e; cases e
    exact (N p (hs p hp)).1
  · exact F.keep b o q
theorem Ground0.pOf (G : Ground0 w mg mb P h₀ h g as) (N : News g L h' news) {p : Addr × Obj} (hp : p ∈ news) : P p.1 := G.nothing _ (N p hp).2.2

theorem enterC {name qual : Str} {params : Arguments} {body : List Stmt} {scope : Scope} {dV kV doc pm cdv ct oc : Value} {an od : Option Addr} {osl : Array (Option Value)} {f : Addr} {vs : List Value} {binds : List (Str × Value)}
    (as : List (Addr × Obj)) (C : Cx w mg mb P h₀ s.heap) (ha : ∀ p ∈ as, s.heap.get? p.1 = some p.2 ∧ P p.1)
    (ho : (hd.heap_39 w.params).lookup f = some ⟨oc, od, .func (fnOf name qual params body scope dV kV doc pm an cdv ct), osl⟩) (hcd : codeIn (hd.heap_39 w.params) cdv qual = true) (hroom : A.depth < recursionLimit)
    (hbind : BindsTo s (fnOf name qual params body scope dV kV doc pm an cdv ct) ⟨vs, []⟩ binds) (hloc : ∀ y ∈ binds, scope.names.lookup y.1 = some .local)
    (h : ∀ g L' h₁, Ground0 w mg mb P h₀ s.heap g as → Fr g L' h₁ (fun y => binds.reverse.lookup y) → News g L' h₁ as → (hd.heap_39 w.params).In g → TopRead hd.view_39 (looseW hd.view_39 [Str.ofString "FQ"]) mg mb g →
      wpAny (model prog w) (A.deeper (envOf qual scope L' f cdv)) (execs body (envOf qual scope L' f cdv))
        (fun fl s' => R (.ok (.ret (match fl with | .ret v => v | _ => .none))) s') (fun _ _ => False)
        { s with heap := h₁, toks := s.toks + binds.length })
    (hco : scope.isCoroutine = false) (hgen : scope.isGenerator = false) (hk : scope.kind = .function) (hcell : ∀ x ∈ scope.names, x.2 ≠ .cell) :
    codeAny (model prog w) A (.call (.ref f) ⟨vs, []⟩) R s := by
  have X : (hd.heap_39 w.params).In s.heap := C.K.keeps C.st
  have G := C.ground ha
  refine codeAny_call_def (fd := fnOf name qual params body scope dV kV doc pm an cdv ct) (body := body) (binds := binds) hroom (X _ _ ho) rfl (C.T.nolimit.keeps C.st) (codeRec_of X hcd) rfl hbind hcell hloc (fun h₁ hns hk₁ => ?_) hco hgen hk
  refine wpAny_mono (h _ s.heap.objs.size h₁ G ⟨hns, fun b o e => hk₁ b o (G.sub b o e), Nat.le_of_eq G.size⟩ (fun p hp => ⟨hk₁ _ _ (ha p hp).1, Nat.ne_of_lt (Heap.lt_size (ha p hp).1), G.hid p hp⟩) (C.K.keeps G.st) (C.T.keeps G.st)) (fun _ _ y => y) fun _ _ y => y.elim

theorem enter {name qual : Str} {params : Arguments} {body : List Stmt} {scope : Scope} {dV kV doc pm cdv ct oc : Value} {an od : Option Addr} {osl : Array (Option Value)} {f : Addr} {vs : List Value} {binds : List (Str × Value)}
    (as : List (Addr × Obj)) (C : Cx w mg mb P h₀ s.heap) (ha : ∀ p ∈ as, s.heap.get? p.1 = some p.2 ∧ P p.1)
    (ho : (hd.heap_39 w.params).lookup f = some ⟨oc, od, .func (fnOf name qual params body scope dV kV doc pm an cdv ct), osl⟩) (hcd : codeIn (hd.heap_39 w.params) cdv qual = true) (hroom : A.depth < recursionLimit)
    (hbind : BindsTo s (fnOf name qual params body scope dV kV doc pm an cdv ct) ⟨vs, []⟩ binds) (hloc : ∀ y ∈ binds, scope.names.lookup y.1 = some .local)
    (h : ∀ g L' h₁, Ground0 w mg mb P h₀ s.heap g as → Fr g L' h₁ (fun y => binds.reverse.lookup y) → News g L' h₁ as → (hd.heap_39 w.params).In g → TopRead hd.view_39 (looseW hd.view_39 [Str.ofString "FQ"]) mg mb g →
      wpAny (model prog w) (A.deeper (envOf qual scope L' f cdv)) (execs body (envOf qual scope L' f cdv))
        (fun fl s' => Q (match fl with | .ret v => v | _ => .none) s') (fun _ _ => False)
        { s with heap := h₁, toks := s.toks + binds.length })
    (hco : scope.isCoroutine = false) (hgen : scope.isGenerator = false) (hk : scope.kind = .function) (hcell : ∀ x ∈ scope.names, x.2 ≠ .cell) :
    wpAny (model prog w) A (call (.ref f) vs) Q E s := wpAny_call (enterC as C ha ho hcd hroom hbind hloc h hco hgen hk hcell)
end

end Mine
end

section
open PySem PySem.W PyProof.Rows PySem.Calls
set_option maxRecDepth 100000
set_option maxHeartbeats 8000000
namespace Mine
theorem fill1 (w : World) (h : Heap) : PySem.Challenge.rw_bb0059_01.Holds → (hd.heap_39 w.params).In h → True := by
  k_fill
  intros; trivial

abbrev fqDict (w : World) (p n : Int) (t1 t2 t3 t4 : Tok) : Obj :=
  dictOf [⟨PyData.keyHash w.params (Str.ofString "field_modulus"), .str (Str.ofString "field_modulus") t1, .int p t2⟩, ⟨PyData.keyHash w.params (Str.ofString "n"), .str (Str.ofString "n") t3, .int n t4⟩] 2

def FqP (w : World) (P : Addr → Prop) (h : Heap) (v : Value) (p n : Int) : Prop :=
  ∃ x d t1 t2 t3 t4, v = .ref x ∧ h.get? x = some (instObj 228 d) ∧ h.get? d = some (fqDict w p n t1 t2 t3 t4) ∧ P x ∧ P d

section
variable {prog : Program} {w : World} {A : Around} {s : Shared} {E : Value → Shared → Prop} {Q : Value → Shared → Prop} {R : Result → Shared → Prop} {mg mb : Str → Option Value} {P : Addr → Prop} {h₀ h h' g : Heap} {L : Addr} {m : Str → Option Value}
  {as news : List (Addr × Obj)} {p v : Int}

theorem fq_new {tv tp : Tok} (C : Cx w mg mb P h₀ s.heap) (hp : 0 < p) (hroom : A.depth + 3 < recursionLimit)
    (hQ : ∀ r h' tk', s.heap.StaysIn h' → FqP w P h' r p (v % p) → Q r { s with heap := h', toks := tk' }) :
    wpAny (model prog w) A (call (.ref 228) [.int v tv, .int p tp]) Q E s := by
  refine wpAny_call ?_
  have X : (hd.heap_39 w.params).In s.heap := C.K.keeps C.st
  obtain ⟨hh, gs, d, t, os⟩ := s
  dsimp only at *
  refine make_core (init := .ref 84) (makes_of X (by k_is)) (looks_findIn X (by k_is)) (fun self => bind_fn X self (by k_is)) (.inl rfl) ?_
  have k : hh.StaysIn ((hh.push emptyDict).push (instObj 228 hh.objs.size)) := fun b o e => Heap.get?_push_of_some _ (Heap.get?_push_of_some _ e)
  have n0 : hh.get? hh.objs.size = none := by
    cases q : hh.get? hh.objs.size with
    | none => rfl
    | some o => exact absurd (Heap.lt_size q) (Nat.lt_irrefl _)
  have n1 : hh.get? (hh.objs.size + 1) = none := by
    cases q : hh.get? (hh.objs.size + 1) with
    | none => rfl
    | some o => exact absurd (Heap.lt_size q) (Nat.not_lt.mpr (Nat.le_succ _))
  have g0 : ((hh.push emptyDict).push (instObj 228 hh.objs.size)).get? (hh.objs.size + 1) = some (instObj 228 hh.objs.size) := by heap_get
  have g1 : ((hh.push emptyDict).push (instObj 228 hh.objs.size)).get? hh.objs.size = some emptyDict := by heap_get
  have P0 := C.fresh _ n0
  have P1 := C.fresh _ n1
  have hlt : hh.objs.size < hh.objs.size + 1 := Nat.lt_succ_self _
  generalize hx : hh.objs.size + 1 = x at *
  generalize hd' : hh.objs.size = d' at *
  refine' enterC (P := P) (h₀ := h₀) [(x, instObj 228 d'), (d', dictOf [] 0)] (C.grow k) ?ha ?k1 ?k2 ?k3 ?k4 ?k5 ?k6 ?k7 ?k8 ?k9 ?k10
  case ha =>
    intro p hp
    rcases List.mem_cons.mp hp with rfl | hp
    · exact ⟨g0, P1⟩
    · rw [List.mem_singleton.mp hp]; exact ⟨g1, P0⟩
  case k1 => k_is
  case k2 => k_is
  case k3 => show A.depth + 1 < _; omega
  case k4 => exact BindsTo.of_eq rfl
  case k5 => exact locs rfl
  case k7 => rfl
  case k8 => rfl
  case k9 => rfl
  case k10 => decide
  intro g' L' h' G F N X' T
  dsimp only
  k_steps
  refine ⟨rfl, ?_⟩
  have e : v.fmod p = v % p := Int.fmod_eq_emod_of_nonneg v (Int.le_of_lt hp)
  rename News _ _ _ _ => N'
  rename Fr _ _ _ _ => F'
  have hst := G.sub
  refine hQ (.ref x) _ _ (fun b o q => ?_) ⟨x, d', _, _, _, _, rfl, (N' _ (.head _)).1, e ▸ (N' _ (.tail _ (.head _))).1, P1, P0⟩
  rcases G.keep b o (k b o q) with ⟨r, hr, rfl, z⟩ | z
  · exfalso
    rcases List.mem_cons.mp hr with rfl | hr
    · rw [n1] at q; cases q
    · rw [List.mem_singleton.mp hr, n0] at q; cases q
  · exact F'.keep b o z
end
end Mine
end

section
open PySem PySem.W PyProof.Rows PySem.Calls
set_option maxRecDepth 100000
set_option maxHeartbeats 8000000
namespace Mine
theorem fill3 (w : World) (h : Heap) : PySem.Challenge.rw_bb0059_01.Holds → (hd.heap_39 w.params).In h → True := by
  k_fill
  intros; trivial
section
variable {prog : Program} {w : World} {A : Around} {s : Shared} {E : Value → Shared → Prop} {Q : Value → Shared → Prop} {h₀ g : Heap} {L : Addr} {m : Str → Option Value}

theorem int_mul_ref {i : Int} {t : Tok} {x d : Addr} {Q : Fin → Shared → Prop} (hx : s.heap.get? x = some (instObj 228 d)) (h : Q (.done (.ret .notImplemented)) s) :
   wpAny (model prog w) A (Builtin.«int.__mul__» ⟨[.int i t, .ref x], []⟩) Q E s := by
  unfold Builtin.«int.__mul__»
  show wpAny _ _ ((load x >>= fun o => (match o.data with | .prim (.int i _) => pure (some i) | _ => pure none)) >>= _) _ _ s
  refine wpAny_bind (wpAny_bind (wpAny_load hx (wpAny_pure ?_)))
  exact wpAny_bind (wpAny_rule (wpAny_pure h))
theorem int_mul_declines {i : Int} {t : Tok} {x d : Addr} {Q : Option Value → Shared → Prop} (hx : s.heap.get? x = some (instObj 228 d)) (h : Q none s) :
    wpAny (model prog w) A (tryMethod (.int i t) (PySem.dunder "mul") (.ref x)) Q E s := by
  unfold tryMethod
  refine wpAny_bind ?_
  refine wpAny_callSpecial?_slot (T := "int") (name := PySem.dunder "mul") (id := "int.__mul__") (args := [.ref x]) (kw := []) ?_ F.slot_int_mul ?_
  · exact typeIs_int s i t
  have e := F.args_int_mul_2 (.int i t) (.ref x)
  refine wpAny_call_entry (T := "int") (name := PySem.dunder "mul") (id := "int.__mul__") (b := Builtin.«int.__mul__») F.slot_int_mul ?_ ?_ ?_ e
  · exact typeIs_int s i t
  · exact F.entry_int_mul
  exact int_mul_ref hx ⟨_, rfl, wpAny_pure h⟩

theorem fq_first (P : Params) : ∃ cd rest, clsIn (hd.heap_39 P) 228 = some cd ∧ cd.mro = .ref 228 :: rest := ksp_first (by k_is)

theorem mul_int_fq {i : Int} {t : Tok} {x d : Addr} {o : Obj} (F : Fr g L s.heap m) (X₀ : (hd.heap_39 w.params).In g) (hx : s.heap.get? x = some (instObj 228 d)) (hd' : s.heap.get? d = some o)
    (h : wpAny (model prog w) A (call (.ref 105) [.ref x, .int i t]) (PySem.W.CmpBack Q) E s) : wpAny (model prog w) A (binaryOp .Mult (.int i t) (.ref x)) Q E s := by
  have X := X₀.keeps F.keep
  have I : InstAt s.heap x (instObj 228 d) 228 (some o) := ⟨hx, rfl, rfl, hd'⟩
  obtain ⟨cd, rest, hcd, hm⟩ := fq_first w.params
  have one := ksp_try (name := dunderR "mul") X I (f := 105) (by k_is) (by k_is) h
  have two : ∀ {Q : Option Value → Shared → Prop}, Q none s → wpAny (model prog w) A (tryMethod (.int i t) (PySem.dunder "mul") (.ref x)) Q E s := fun q => int_mul_declines hx q
  obtain ⟨hh, gg, dr, tt, os⟩ := s
  have L1 : Looks (model prog w) hh (typeOf (.ref x)) (.ref 228) := I.type
  have L2 : Looks (model prog w) hh (typeOf (.int i t)) (.type "int") := Looks.of_pure rfl
  have L3 : Looks (model prog w) hh (fillsNumberSlot (.ref 228) "mul") true := fills_K X hcd hm (f := 98) (by k_is)
  have L4 : Looks (model prog w) hh (fillsNumberSlot (.type "int") "mul") true := Looks.of_pure PySem.F.fills_int_mul
  have L5 : Looks (model prog w) hh (isSubtype (.ref 228) (.type "int")) false := looks_subIn X (by k_is)
  have L7 : Looks (model prog w) hh (numberSlotInPython (.type "int") "mul") false := Looks.of_pure rfl
  have hne : (Value.type "int" == Value.ref 228) = false := Bool.eq_false_iff.mpr fun q => by cases beq_iff_eq.mp q
  simp only [binaryOp, show Operator.Mult.info = ("*", "mul") from rfl]
  refine wpAny_holding (wpAny_bind ?_)
  unfold binaryOp1
  refine wpAny_bind (L2.at (wpAny_bind (L1.at (wpAny_bind (L4.at ?_)))))
  simp only [hne, Bool.false_eq_true, if_false]
  ksp_lk
  refine two ?_
  ksp_lk
  refine wpAny_mono one (fun r s' hr' => ?_) fun _ _ e => e
  obtain ⟨v, rfl, hq⟩ := hr'
  ksp_lk
  exact hq
end
end Mine
end

section
open PySem PySem.W PyProof.Rows PySem.Calls
set_option maxRecDepth 100000
set_option maxHeartbeats 8000000
namespace Mine
theorem fill2 (w : World) (h : Heap) : PySem.Challenge.rw_bb0059_01.Holds → (hd.heap_39 w.params).In h → True := by
  k_fill
  intros; trivial

/-- may be used in a frame: not the base's, not the frame -/
abbrev Own (g : Heap) (L : Addr) : Addr → Prop := fun a => g.get? a = none ∧ a ≠ L

section
variable {prog : Program} {w : World} {A : Around} {s : Shared} {E : Value → Shared → Prop} {Q : Value → Shared → Prop} {R : Result → Shared → Prop} {mg mb : Str → Option Value} {P : Addr → Prop} {h₀ h h' g : Heap} {L : Addr} {m : Str → Option Value}
  {as news : List (Addr × Obj)} {p v n k : Int} {a b : Value}

theorem FqP.stay (x : FqP w P h a p n) (k : h.StaysIn h') : FqP w P h' a p n :=
  let ⟨x, d, t1, t2, t3, t4, e, a, b, c⟩ := x; ⟨x, d, t1, t2, t3, t4, e, k _ _ a, k _ _ b, c⟩
theorem FqP.ofNews {x d : Addr} {t1 t2 t3 t4 : Tok} (N : News g L h news) (m1 : (x, instObj 228 d) ∈ news) (m2 : (d, fqDict w p n t1 t2 t3 t4) ∈ news) : FqP w (Own g L) h (.ref x) p n :=
  ⟨x, d, t1, t2, t3, t4, rfl, (N _ m1).1, (N _ m2).1, ⟨(N _ m1).2.2, (N _ m1).2.1⟩, ⟨(N _ m2).2.2, (N _ m2).2.1⟩⟩
/-- at a def's end: what the ledger bears may be handed on -/
theorem FqP.out {x d : Addr} {t1 t2 t3 t4 : Tok} (G : Ground0 w mg mb P h₀ h g as) (N : News g L h' news) (m1 : (x, instObj 228 d) ∈ news) (m2 : (d, fqDict w p n t1 t2 t3 t4) ∈ news) : FqP w P h' (.ref x) p n :=
  ⟨x, d, t1, t2, t3, t4, rfl, (N _ m1).1, (N _ m2).1, G.pOf N m1, G.pOf N m2⟩
theorem sub_tail {q : Addr × Obj} {r : List (Addr × Obj)} (h : ∀ p ∈ as, p ∈ r) : ∀ p ∈ as, p ∈ q :: r := fun p hp => .tail _ (h p hp)

/-- an FQ comes back to a frame: its two objects go onto the ledger -/
theorem use_fq {t : Sem Value} (F : Fr g L s.heap m) (N : News g L s.heap news) (X : (hd.heap_39 w.params).In g) (T : TopRead hd.view_39 (looseW hd.view_39 [Str.ofString "FQ"]) mg mb g) (b0 : 0 ≤ n) (b1 : n < p)
    (spec : ∀ Q' : Value → Shared → Prop, Cx w mg mb (Own g L) g s.heap → (∀ r h' tk', s.heap.StaysIn h' → FqP w (Own g L) h' r p n → Q' r { s with heap := h', toks := tk' }) → wpAny (model prog w) A t Q' E s)
    (h : ∀ x d t1 t2 t3 t4 h' tk' v', v' = n → 0 ≤ v' → v' < p → Fr g L h' m → News g L h' ((x, instObj 228 d) :: (d, fqDict w p v' t1 t2 t3 t4) :: news) → Q (.ref x) { s with heap := h', toks := tk' }) :
    wpAny (model prog w) A t Q E s := by
  refine spec Q (Cx.ofFrame F X T) fun r h' tk' st q => ?_
  obtain ⟨x, d, t1, t2, t3, t4, rfl, a, b, c, e⟩ := q
  refine h x d t1 t2 t3 t4 h' tk' n rfl b0 b1 (Fr.stay F st) fun z hz => ?_
  rcases List.mem_cons.mp hz with rfl | hz
  · exact ⟨a, c.2, c.1⟩
  · rcases List.mem_cons.mp hz with rfl | hz
    · exact ⟨b, e.2, e.1⟩
    · exact News.stay N st z hz
theorem emod_pos_lt (hp : 1 < p) : v % p < p := Int.emod_lt_of_pos v (by omega)
theorem emod_pos_le (hp : 1 < p) : 0 ≤ v % p := Int.emod_nonneg v (by omega)
theorem fmod_twice (hp : 1 < p) : v.fmod p % p = v % p := by rw [Int.fmod_eq_emod_of_nonneg v (by omega), Int.emod_emod]
end

section
variable {prog : Program} {w : World} {A : Around} {s : Shared} {E : Value → Shared → Prop} {Q : Value → Shared → Prop} {mg mb : Str → Option Value} {P : Addr → Prop} {h₀ g : Heap} {L : Addr} {m : Str → Option Value}
  {as news : List (Addr × Obj)} {p v n k : Int} {a b : Value}
theorem use_new {tv tp : Tok} (F : Fr g L s.heap m) (N : News g L s.heap news) (X : (hd.heap_39 w.params).In g) (T : TopRead hd.view_39 (looseW hd.view_39 [Str.ofString "FQ"]) mg mb g) (hp : 1 < p) (hr : A.depth + 3 < recursionLimit)
    (h : ∀ x d t1 t2 t3 t4 h' tk' v', v' = v % p → 0 ≤ v' → v' < p → Fr g L h' m → News g L h' ((x, instObj 228 d) :: (d, fqDict w p v' t1 t2 t3 t4) :: news) → Q (.ref x) { s with heap := h', toks := tk' }) :
    wpAny (model prog w) A (call (.ref 228) [.int v tv, .int p tp]) Q E s :=
  use_fq F N X T (emod_pos_le hp) (emod_pos_lt hp) (fun _ C hQ => fq_new C (by omega) hr hQ) h
local macro_rules | `(tactic| walk_at "call ref") => `(tactic| (k_here; (with_reducible show wpAny _ _ (call (Value.ref 228) [Value.int _ _, Value.int _ _]) _ _ _); (refine' use_new ?F ?N ?X ?T ?hp ?hr ?_; (case F => k_asm); (case N => k_asm); (case X => k_asm); (case T => k_asm); (case hp => first | assumption | omega); (case hr => ((try simp only [depth_deeper, depth_in1, depth_under_make]); omega)); k_whole); intro x' d' t1' t2' t3' t4' h' tk' v' e' b1' b2' F' N'; (try k_sweep); (try dsimp only [PySem.W.CmpBack])))

theorem made_ok {tv : Tok} (C : Cx w mg mb P h₀ s.heap) (ha : FqP w P s.heap a p n) (hp : 1 < p)  (hr : A.depth + 5 < recursionLimit)
    (hQ : ∀ r h' tk', s.heap.StaysIn h' → FqP w P h' r p (v % p) → Q r { s with heap := h', toks := tk' }) :
    wpAny (model prog w) A (call (.ref 211) [a, .int v tv]) Q E s := by
  obtain ⟨x, d, t1, t2, t3, t4, rfl, a1, a2, P1, P2⟩ := ha
  refine' enter (P := P) (h₀ := h₀) [(x, instObj 228 d), (d, fqDict w p n t1 t2 t3 t4)] C ?ha ?k1 ?k2 ?k3 ?k4 ?k5 ?k6 ?k7 ?k8 ?k9 ?k10
  case ha => exact List.forall_mem_cons.mpr ⟨⟨a1, P1⟩, List.forall_mem_cons.mpr ⟨⟨a2, P2⟩, List.forall_mem_nil _⟩⟩
  case k1 => k_is
  case k2 => k_is
  case k3 => omega
  case k4 => exact BindsTo.of_eq (binds := [(Str.ofString "self", .ref x), (Str.ofString "val", .int v tv)]) rfl
  case k5 => exact locs rfl
  case k7 => rfl
  case k8 => rfl
  case k9 => rfl
  case k10 => decide
  intro g' L' h' G F N X' T
  try dsimp only
  k_steps
  all_goals (rename News _ _ _ _ => N'; rename Fr _ _ _ _ => F'; try subst_vars)
  exact hQ _ _ _ (G.stays F' N' (by repeat first | exact fun _ h => h | refine sub_tail ?_)) (FqP.out G N' (by k_mem) (by k_mem))
theorem use_made {tv : Tok} (F : Fr g L s.heap m) (N : News g L s.heap news) (X : (hd.heap_39 w.params).In g) (T : TopRead hd.view_39 (looseW hd.view_39 [Str.ofString "FQ"]) mg mb g) (ha : FqP w (Own g L) s.heap a p n) (hp : 1 < p) (hr : A.depth + 5 < recursionLimit)
    (h : ∀ x d t1 t2 t3 t4 h' tk' v', v' = v % p → 0 ≤ v' → v' < p → Fr g L h' m → News g L h' ((x, instObj 228 d) :: (d, fqDict w p v' t1 t2 t3 t4) :: news) → Q (.ref x) { s with heap := h', toks := tk' }) : wpAny (model prog w) A (call (.ref 211) [a, .int v tv]) Q E s :=
  use_fq F N X T (emod_pos_le hp) (emod_pos_lt hp) (fun _ C hQ => made_ok C ha hp hr hQ) h
local macro_rules | `(tactic| walk_at "call ref") => `(tactic| (k_here; (with_reducible show wpAny _ _ (call (Value.ref 211) [Value.ref _, Value.int _ _]) _ _ _); (refine' use_made ?F ?N ?X ?T ?ha ?hp ?hr ?_; (case F => k_asm); (case N => k_asm); (case X => k_asm); (case T => k_asm); (case ha => exact FqP.ofNews (by k_asm) (by k_mem) (by k_mem)); (case hp => first | assumption | omega); (case hr => ((try simp only [depth_deeper, depth_in1, depth_under_make]); omega)); k_whole); intro x' d' t1' t2' t3' t4' h' tk' v' e' b1' b2' F' N'; (try k_sweep); (try dsimp only [PySem.W.CmpBack])))

theorem one_ok (C : Cx w mg mb P h₀ s.heap) (ha : FqP w P s.heap a p n) (hp : 1 < p)  (hr : A.depth + 7 < recursionLimit)
    (hQ : ∀ r h' tk', s.heap.StaysIn h' → FqP w P h' r p (1) → Q r { s with heap := h', toks := tk' }) :
    wpAny (model prog w) A (call (.ref 218) [a]) Q E s := by
  obtain ⟨x, d, t1, t2, t3, t4, rfl, a1, a2, P1, P2⟩ := ha
  have e1 : (1 : Int) % p = 1 := Int.emod_eq_of_lt (by decide) hp
  refine' enter (P := P) (h₀ := h₀) [(x, instObj 228 d), (d, fqDict w p n t1 t2 t3 t4)] C ?ha ?k1 ?k2 ?k3 ?k4 ?k5 ?k6 ?k7 ?k8 ?k9 ?k10
  case ha => exact List.forall_mem_cons.mpr ⟨⟨a1, P1⟩, List.forall_mem_cons.mpr ⟨⟨a2, P2⟩, List.forall_mem_nil _⟩⟩
  case k1 => k_is
  case k2 => k_is
  case k3 => omega
  case k4 => exact BindsTo.of_eq (binds := [(Str.ofString "self", .ref x)]) rfl
  case k5 => exact locs rfl
  case k7 => rfl
  case k8 => rfl
  case k9 => rfl
  case k10 => decide
  intro g' L' h' G F N X' T
  try dsimp only
  k_steps
  all_goals (rename News _ _ _ _ => N'; rename Fr _ _ _ _ => F'; try subst_vars)
  exact hQ _ _ _ (G.stays F' N' (by repeat first | exact fun _ h => h | refine sub_tail ?_)) (e1 ▸ FqP.out G N' (by k_mem) (by k_mem))
theorem use_one (F : Fr g L s.heap m) (N : News g L s.heap news) (X : (hd.heap_39 w.params).In g) (T : TopRead hd.view_39 (looseW hd.view_39 [Str.ofString "FQ"]) mg mb g) (ha : FqP w (Own g L) s.heap a p n) (hp : 1 < p) (hr : A.depth + 7 < recursionLimit)
    (h : ∀ x d t1 t2 t3 t4 h' tk' v', v' = 1 → 0 ≤ v' → v' < p → Fr g L h' m → News g L h' ((x, instObj 228 d) :: (d, fqDict w p v' t1 t2 t3 t4) :: news) → Q (.ref x) { s with heap := h', toks := tk' }) : wpAny (model prog w) A (call (.ref 218) [a]) Q E s :=
  use_fq F N X T (by omega) (by omega) (fun _ C hQ => one_ok C ha hp hr hQ) h
local macro_rules | `(tactic| walk_at "call ref") => `(tactic| (k_here; (try dsimp only [List.nil_append, List.cons_append]); (with_reducible show wpAny _ _ (call (Value.ref 218) [Value.ref _]) _ _ _); (refine' use_one ?F ?N ?X ?T ?ha ?hp ?hr ?_; (case F => k_asm); (case N => k_asm); (case X => k_asm); (case T => k_asm); (case ha => exact FqP.ofNews (by k_asm) (by k_mem) (by k_mem)); (case hp => first | assumption | omega); (case hr => ((try simp only [depth_deeper, depth_in1, depth_under_make]); omega)); k_whole); intro x' d' t1' t2' t3' t4' h' tk' v' e' b1' b2' F' N'; (try k_sweep); (try dsimp only [PySem.W.CmpBack])))

theorem zero_ok (C : Cx w mg mb P h₀ s.heap) (ha : FqP w P s.heap a p n) (hp : 1 < p)  (hr : A.depth + 7 < recursionLimit)
    (hQ : ∀ r h' tk', s.heap.StaysIn h' → FqP w P h' r p (0) → Q r { s with heap := h', toks := tk' }) :
    wpAny (model prog w) A (call (.ref 225) [a]) Q E s := by
  obtain ⟨x, d, t1, t2, t3, t4, rfl, a1, a2, P1, P2⟩ := ha
  have e1 : (0 : Int) % p = 0 := Int.zero_emod p
  refine' enter (P := P) (h₀ := h₀) [(x, instObj 228 d), (d, fqDict w p n t1 t2 t3 t4)] C ?ha ?k1 ?k2 ?k3 ?k4 ?k5 ?k6 ?k7 ?k8 ?k9 ?k10
  case ha => exact List.forall_mem_cons.mpr ⟨⟨a1, P1⟩, List.forall_mem_cons.mpr ⟨⟨a2, P2⟩, List.forall_mem_nil _⟩⟩
  case k1 => k_is
  case k2 => k_is
  case k3 => omega
  case k4 => exact BindsTo.of_eq (binds := [(Str.ofString "self", .ref x)]) rfl
  case k5 => exact locs rfl
  case k7 => rfl
  case k8 => rfl
  case k9 => rfl
  case k10 => decide
  intro g' L' h' G F N X' T
  try dsimp only
  k_steps
  all_goals (rename News _ _ _ _ => N'; rename Fr _ _ _ _ => F'; try subst_vars)
  exact hQ _ _ _ (G.stays F' N' (by repeat first | exact fun _ h => h | refine sub_tail ?_)) (e1 ▸ FqP.out G N' (by k_mem) (by k_mem))
theorem use_zero (F : Fr g L s.heap m) (N : News g L s.heap news) (X : (hd.heap_39 w.params).In g) (T : TopRead hd.view_39 (looseW hd.view_39 [Str.ofString "FQ"]) mg mb g) (ha : FqP w (Own g L) s.heap a p n) (hp : 1 < p) (hr : A.depth + 7 < recursionLimit)
    (h : ∀ x d t1 t2 t3 t4 h' tk' v', v' = 0 → 0 ≤ v' → v' < p → Fr g L h' m → News g L h' ((x, instObj 228 d) :: (d, fqDict w p v' t1 t2 t3 t4) :: news) → Q (.ref x) { s with heap := h', toks := tk' }) : wpAny (model prog w) A (call (.ref 225) [a]) Q E s :=
  use_fq F N X T (by omega) (by omega) (fun _ C hQ => zero_ok C ha hp hr hQ) h
local macro_rules | `(tactic| walk_at "call ref") => `(tactic| (k_here; (try dsimp only [List.nil_append, List.cons_append]); (with_reducible show wpAny _ _ (call (Value.ref 225) [Value.ref _]) _ _ _); (refine' use_zero ?F ?N ?X ?T ?ha ?hp ?hr ?_; (case F => k_asm); (case N => k_asm); (case X => k_asm); (case T => k_asm); (case ha => exact FqP.ofNews (by k_asm) (by k_mem) (by k_mem)); (case hp => first | assumption | omega); (case hr => ((try simp only [depth_deeper, depth_in1, depth_under_make]); omega)); k_whole); intro x' d' t1' t2' t3' t4' h' tk' v' e' b1' b2' F' N'; (try k_sweep); (try dsimp only [PySem.W.CmpBack])))

theorem neg_ok (C : Cx w mg mb P h₀ s.heap) (ha : FqP w P s.heap a p n) (hp : 1 < p) (hpb : p ≤ 10039) (hn0 : 0 ≤ n) (hn1 : n < p) (hr : A.depth + 7 < recursionLimit)
    (hQ : ∀ r h' tk', s.heap.StaysIn h' → FqP w P h' r p (-n % p) → Q r { s with heap := h', toks := tk' }) :
    wpAny (model prog w) A (call (.ref 175) [a]) Q E s := by
  obtain ⟨x, d, t1, t2, t3, t4, rfl, a1, a2, P1, P2⟩ := ha
  refine' enter (P := P) (h₀ := h₀) [(x, instObj 228 d), (d, fqDict w p n t1 t2 t3 t4)] C ?ha ?k1 ?k2 ?k3 ?k4 ?k5 ?k6 ?k7 ?k8 ?k9 ?k10
  case ha => exact List.forall_mem_cons.mpr ⟨⟨a1, P1⟩, List.forall_mem_cons.mpr ⟨⟨a2, P2⟩, List.forall_mem_nil _⟩⟩
  case k1 => k_is
  case k2 => k_is
  case k3 => omega
  case k4 => exact BindsTo.of_eq (binds := [(Str.ofString "self", .ref x)]) rfl
  case k5 => exact locs rfl
  case k7 => rfl
  case k8 => rfl
  case k9 => rfl
  case k10 => decide
  intro g' L' h' G F N X' T
  try dsimp only
  k_steps
  all_goals (rename News _ _ _ _ => N'; rename Fr _ _ _ _ => F'; try subst_vars)
  exact hQ _ _ _ (G.stays F' N' (by repeat first | exact fun _ h => h | refine sub_tail ?_)) (FqP.out G N' (by k_mem) (by k_mem))
theorem use_neg (F : Fr g L s.heap m) (N : News g L s.heap news) (X : (hd.heap_39 w.params).In g) (T : TopRead hd.view_39 (looseW hd.view_39 [Str.ofString "FQ"]) mg mb g) (ha : FqP w (Own g L) s.heap a p n) (hp : 1 < p) (hpb : p ≤ 10039) (hn0 : 0 ≤ n) (hn1 : n < p) (hr : A.depth + 7 < recursionLimit)
    (h : ∀ x d t1 t2 t3 t4 h' tk' v', v' = -n % p → 0 ≤ v' → v' < p → Fr g L h' m → News g L h' ((x, instObj 228 d) :: (d, fqDict w p v' t1 t2 t3 t4) :: news) → Q (.ref x) { s with heap := h', toks := tk' }) : wpAny (model prog w) A (call (.ref 175) [a]) Q E s :=
  use_fq F N X T (emod_pos_le hp) (emod_pos_lt hp) (fun _ C hQ => neg_ok C ha hp hpb hn0 hn1 hr hQ) h
local macro_rules | `(tactic| walk_at "call ref") => `(tactic| (k_here; (try dsimp only [List.nil_append, List.cons_append]); (with_reducible show wpAny _ _ (call (Value.ref 175) [Value.ref _]) _ _ _); (refine' use_neg ?F ?N ?X ?T ?ha ?hp ?hpb ?hn0 ?hn1 ?hr ?_; (case F => k_asm); (case N => k_asm); (case X => k_asm); (case T => k_asm); (case ha => exact FqP.ofNews (by k_asm) (by k_mem) (by k_mem)); (case hp => first | assumption | omega); (case hpb => first | assumption | omega); (case hn0 => first | assumption | omega); (case hn1 => first | assumption | omega); (case hr => ((try simp only [depth_deeper, depth_in1, depth_under_make]); omega)); k_whole); intro x' d' t1' t2' t3' t4' h' tk' v' e' b1' b2' F' N'; (try k_sweep); (try dsimp only [PySem.W.CmpBack])))

theorem mul_ok (C : Cx w mg mb P h₀ s.heap) (ha : FqP w P s.heap a p n) (hb : FqP w P s.heap b p k) (hp : 1 < p) (hpb : p ≤ 10039) (hn0 : 0 ≤ n) (hn1 : n < p) (hk0 : 0 ≤ k) (hk1 : k < p) (hr : A.depth + 7 < recursionLimit)
    (hQ : ∀ r h' tk', s.heap.StaysIn h' → FqP w P h' r p ((n * k) % p) → Q r { s with heap := h', toks := tk' }) :
    wpAny (model prog w) A (call (.ref 98) [a, b]) Q E s := by
  obtain ⟨x, d, t1, t2, t3, t4, rfl, a1, a2, P1, P2⟩ := ha
  obtain ⟨y, c, u1, u2, u3, u4, rfl, b1, b2, P3, P4⟩ := hb
  refine' enter (P := P) (h₀ := h₀) [(x, instObj 228 d), (d, fqDict w p n t1 t2 t3 t4), (y, instObj 228 c), (c, fqDict w p k u1 u2 u3 u4)] C ?ha ?k1 ?k2 ?k3 ?k4 ?k5 ?k6 ?k7 ?k8 ?k9 ?k10
  case ha => exact List.forall_mem_cons.mpr ⟨⟨a1, P1⟩, List.forall_mem_cons.mpr ⟨⟨a2, P2⟩, List.forall_mem_cons.mpr ⟨⟨b1, P3⟩, List.forall_mem_cons.mpr ⟨⟨b2, P4⟩, List.forall_mem_nil _⟩⟩⟩⟩
  case k1 => k_is
  case k2 => k_is
  case k3 => omega
  case k4 => exact BindsTo.of_eq (binds := [(Str.ofString "self", .ref x), (Str.ofString "other", .ref y)]) rfl
  case k5 => exact locs rfl
  case k7 => rfl
  case k8 => rfl
  case k9 => rfl
  case k10 => decide
  intro g' L' h' G F N X' T
  try dsimp only
  k_steps
  all_goals (rename News _ _ _ _ => N'; rename Fr _ _ _ _ => F'; try subst_vars)
  exact hQ _ _ _ (G.stays F' N' (by repeat first | exact fun _ h => h | refine sub_tail ?_)) (fmod_twice (v := n * k) hp ▸ FqP.out G N' (by k_mem) (by k_mem))
theorem use_mul (F : Fr g L s.heap m) (N : News g L s.heap news) (X : (hd.heap_39 w.params).In g) (T : TopRead hd.view_39 (looseW hd.view_39 [Str.ofString "FQ"]) mg mb g) (ha : FqP w (Own g L) s.heap a p n) (hb : FqP w (Own g L) s.heap b p k) (hp : 1 < p) (hpb : p ≤ 10039) (hn0 : 0 ≤ n) (hn1 : n < p) (hk0 : 0 ≤ k) (hk1 : k < p) (hr : A.depth + 7 < recursionLimit)
    (h : ∀ x d t1 t2 t3 t4 h' tk' v', v' = (n * k) % p → 0 ≤ v' → v' < p → Fr g L h' m → News g L h' ((x, instObj 228 d) :: (d, fqDict w p v' t1 t2 t3 t4) :: news) → Q (.ref x) { s with heap := h', toks := tk' }) : wpAny (model prog w) A (call (.ref 98) [a, b]) Q E s :=
  use_fq F N X T (emod_pos_le hp) (emod_pos_lt hp) (fun _ C hQ => mul_ok C ha hb hp hpb hn0 hn1 hk0 hk1 hr hQ) h
local macro_rules | `(tactic| walk_at "call ref") => `(tactic| (k_here; (with_reducible show wpAny _ _ (call (Value.ref 98) [Value.ref _, Value.ref _]) _ _ _); (refine' use_mul ?F ?N ?X ?T ?ha ?hb ?hp ?hpb ?hn0 ?hn1 ?hk0 ?hk1 ?hr ?_; (case F => k_asm); (case N => k_asm); (case X => k_asm); (case T => k_asm); (case ha => exact FqP.ofNews (by k_asm) (by k_mem) (by k_mem)); (case hb => exact FqP.ofNews (by k_asm) (by k_mem) (by k_mem)); (case hp => first | assumption | omega); (case hpb => first | assumption | omega); (case hn0 => first | assumption | omega); (case hn1 => first | assumption | omega); (case hk0 => first | assumption | omega); (case hk1 => first | assumption | omega); (case hr => ((try simp only [depth_deeper, depth_in1, depth_under_make]); omega)); k_whole); intro x' d' t1' t2' t3' t4' h' tk' v' e' b1' b2' F' N'; (try k_sweep); (try dsimp only [PySem.W.CmpBack])))

theorem sub_ok (C : Cx w mg mb P h₀ s.heap) (ha : FqP w P s.heap a p n) (hb : FqP w P s.heap b p k) (hp : 1 < p) (hpb : p ≤ 10039) (hn0 : 0 ≤ n) (hn1 : n < p) (hk0 : 0 ≤ k) (hk1 : k < p) (hr : A.depth + 7 < recursionLimit)
    (hQ : ∀ r h' tk', s.heap.StaysIn h' → FqP w P h' r p ((n - k) % p) → Q r { s with heap := h', toks := tk' }) :
    wpAny (model prog w) A (call (.ref 126) [a, b]) Q E s := by
  obtain ⟨x, d, t1, t2, t3, t4, rfl, a1, a2, P1, P2⟩ := ha
  obtain ⟨y, c, u1, u2, u3, u4, rfl, b1, b2, P3, P4⟩ := hb
  refine' enter (P := P) (h₀ := h₀) [(x, instObj 228 d), (d, fqDict w p n t1 t2 t3 t4), (y, instObj 228 c), (c, fqDict w p k u1 u2 u3 u4)] C ?ha ?k1 ?k2 ?k3 ?k4 ?k5 ?k6 ?k7 ?k8 ?k9 ?k10
  case ha => exact List.forall_mem_cons.mpr ⟨⟨a1, P1⟩, List.forall_mem_cons.mpr ⟨⟨a2, P2⟩, List.forall_mem_cons.mpr ⟨⟨b1, P3⟩, List.forall_mem_cons.mpr ⟨⟨b2, P4⟩, List.forall_mem_nil _⟩⟩⟩⟩
  case k1 => k_is
  case k2 => k_is
  case k3 => omega
  case k4 => exact BindsTo.of_eq (binds := [(Str.ofString "self", .ref x), (Str.ofString "other", .ref y)]) rfl
  case k5 => exact locs rfl
  case k7 => rfl
  case k8 => rfl
  case k9 => rfl
  case k10 => decide
  intro g' L' h' G F N X' T
  try dsimp only
  k_steps
  all_goals (rename News _ _ _ _ => N'; rename Fr _ _ _ _ => F'; try subst_vars)
  exact hQ _ _ _ (G.stays F' N' (by repeat first | exact fun _ h => h | refine sub_tail ?_)) (fmod_twice (v := n - k) hp ▸ FqP.out G N' (by k_mem) (by k_mem))
theorem use_sub (F : Fr g L s.heap m) (N : News g L s.heap news) (X : (hd.heap_39 w.params).In g) (T : TopRead hd.view_39 (looseW hd.view_39 [Str.ofString "FQ"]) mg mb g) (ha : FqP w (Own g L) s.heap a p n) (hb : FqP w (Own g L) s.heap b p k) (hp : 1 < p) (hpb : p ≤ 10039) (hn0 : 0 ≤ n) (hn1 : n < p) (hk0 : 0 ≤ k) (hk1 : k < p) (hr : A.depth + 7 < recursionLimit)
    (h : ∀ x d t1 t2 t3 t4 h' tk' v', v' = (n - k) % p → 0 ≤ v' → v' < p → Fr g L h' m → News g L h' ((x, instObj 228 d) :: (d, fqDict w p v' t1 t2 t3 t4) :: news) → Q (.ref x) { s with heap := h', toks := tk' }) : wpAny (model prog w) A (call (.ref 126) [a, b]) Q E s :=
  use_fq F N X T (emod_pos_le hp) (emod_pos_lt hp) (fun _ C hQ => sub_ok C ha hb hp hpb hn0 hn1 hk0 hk1 hr hQ) h
local macro_rules | `(tactic| walk_at "call ref") => `(tactic| (k_here; (with_reducible show wpAny _ _ (call (Value.ref 126) [Value.ref _, Value.ref _]) _ _ _); (refine' use_sub ?F ?N ?X ?T ?ha ?hb ?hp ?hpb ?hn0 ?hn1 ?hk0 ?hk1 ?hr ?_; (case F => k_asm); (case N => k_asm); (case X => k_asm); (case T => k_asm); (case ha => exact FqP.ofNews (by k_asm) (by k_mem) (by k_mem)); (case hb => exact FqP.ofNews (by k_asm) (by k_mem) (by k_mem)); (case hp => first | assumption | omega); (case hpb => first | assumption | omega); (case hn0 => first | assumption | omega); (case hn1 => first | assumption | omega); (case hk0 => first | assumption | omega); (case hk1 => first | assumption | omega); (case hr => ((try simp only [depth_deeper, depth_in1, depth_under_make]); omega)); k_whole); intro x' d' t1' t2' t3' t4' h' tk' v' e' b1' b2' F' N'; (try k_sweep); (try dsimp only [PySem.W.CmpBack])))

theorem muli_ok {tv : Tok} (C : Cx w mg mb P h₀ s.heap) (ha : FqP w P s.heap a p n) (hp : 1 < p) (hpb : p ≤ 10039) (hn0 : 0 ≤ n) (hn1 : n < p) (hv0 : 0 ≤ v) (hv1 : v ≤ 16) (hr : A.depth + 7 < recursionLimit)
    (hQ : ∀ r h' tk', s.heap.StaysIn h' → FqP w P h' r p (n * v % p) → Q r { s with heap := h', toks := tk' }) :
    wpAny (model prog w) A (call (.ref 98) [a, .int v tv]) Q E s := by
  obtain ⟨x, d, t1, t2, t3, t4, rfl, a1, a2, P1, P2⟩ := ha
  refine' enter (P := P) (h₀ := h₀) [(x, instObj 228 d), (d, fqDict w p n t1 t2 t3 t4)] C ?ha ?k1 ?k2 ?k3 ?k4 ?k5 ?k6 ?k7 ?k8 ?k9 ?k10
  case ha => exact List.forall_mem_cons.mpr ⟨⟨a1, P1⟩, List.forall_mem_cons.mpr ⟨⟨a2, P2⟩, List.forall_mem_nil _⟩⟩
  case k1 => k_is
  case k2 => k_is
  case k3 => omega
  case k4 => exact BindsTo.of_eq (binds := [(Str.ofString "self", .ref x), (Str.ofString "other", .int v tv)]) rfl
  case k5 => exact locs rfl
  case k7 => rfl
  case k8 => rfl
  case k9 => rfl
  case k10 => decide
  intro g' L' h' G F N X' T
  try dsimp only
  k_steps
  all_goals (rename News _ _ _ _ => N'; rename Fr _ _ _ _ => F'; try subst_vars)
  exact hQ _ _ _ (G.stays F' N' (by repeat first | exact fun _ h => h | refine sub_tail ?_)) (fmod_twice (v := n * v) hp ▸ FqP.out G N' (by k_mem) (by k_mem))
theorem use_muli {tv : Tok} (F : Fr g L s.heap m) (N : News g L s.heap news) (X : (hd.heap_39 w.params).In g) (T : TopRead hd.view_39 (looseW hd.view_39 [Str.ofString "FQ"]) mg mb g) (ha : FqP w (Own g L) s.heap a p n) (hp : 1 < p) (hpb : p ≤ 10039) (hn0 : 0 ≤ n) (hn1 : n < p) (hv0 : 0 ≤ v) (hv1 : v ≤ 16) (hr : A.depth + 7 < recursionLimit)
    (h : ∀ x d t1 t2 t3 t4 h' tk' v', v' = n * v % p → 0 ≤ v' → v' < p → Fr g L h' m → News g L h' ((x, instObj 228 d) :: (d, fqDict w p v' t1 t2 t3 t4) :: news) → Q (.ref x) { s with heap := h', toks := tk' }) : wpAny (model prog w) A (call (.ref 98) [a, .int v tv]) Q E s :=
  use_fq F N X T (emod_pos_le hp) (emod_pos_lt hp) (fun _ C hQ => muli_ok C ha hp hpb hn0 hn1 hv0 hv1 hr hQ) h
local macro_rules | `(tactic| walk_at "call ref") => `(tactic| (k_here; (with_reducible show wpAny _ _ (call (Value.ref 98) [Value.ref _, Value.int _ _]) _ _ _); (refine' use_muli ?F ?N ?X ?T ?ha ?hp ?hpb ?hn0 ?hn1 ?hv0 ?hv1 ?hr ?_; (case F => k_asm); (case N => k_asm); (case X => k_asm); (case T => k_asm); (case ha => exact FqP.ofNews (by k_asm) (by k_mem) (by k_mem)); (case hp => first | assumption | omega); (case hpb => first | assumption | omega); (case hn0 => first | assumption | omega); (case hn1 => first | assumption | omega); (case hv0 => first | assumption | omega); (case hv1 => first | assumption | omega); (case hr => ((try simp only [depth_deeper, depth_in1, depth_under_make]); omega)); k_whole); intro x' d' t1' t2' t3' t4' h' tk' v' e' b1' b2' F' N'; (try k_sweep); (try dsimp only [PySem.W.CmpBack])))

theorem rmul_ok {tv : Tok} (C : Cx w mg mb P h₀ s.heap) (ha : FqP w P s.heap a p n) (hp : 1 < p) (hpb : p ≤ 10039) (hn0 : 0 ≤ n) (hn1 : n < p) (hv0 : 0 ≤ v) (hv1 : v ≤ 16) (hr : A.depth + 9 < recursionLimit)
    (hQ : ∀ r h' tk', s.heap.StaysIn h' → FqP w P h' r p (n * v % p) → Q r { s with heap := h', toks := tk' }) :
    wpAny (model prog w) A (call (.ref 105) [a, .int v tv]) Q E s := by
  obtain ⟨x, d, t1, t2, t3, t4, rfl, a1, a2, P1, P2⟩ := ha
  refine' enter (P := P) (h₀ := h₀) [(x, instObj 228 d), (d, fqDict w p n t1 t2 t3 t4)] C ?ha ?k1 ?k2 ?k3 ?k4 ?k5 ?k6 ?k7 ?k8 ?k9 ?k10
  case ha => exact List.forall_mem_cons.mpr ⟨⟨a1, P1⟩, List.forall_mem_cons.mpr ⟨⟨a2, P2⟩, List.forall_mem_nil _⟩⟩
  case k1 => k_is
  case k2 => k_is
  case k3 => omega
  case k4 => exact BindsTo.of_eq (binds := [(Str.ofString "self", .ref x), (Str.ofString "other", .int v tv)]) rfl
  case k5 => exact locs rfl
  case k7 => rfl
  case k8 => rfl
  case k9 => rfl
  case k10 => decide
  intro g' L' h' G F N X' T
  try dsimp only
  k_steps
  all_goals (rename News _ _ _ _ => N'; rename Fr _ _ _ _ => F'; try subst_vars)
  exact hQ _ _ _ (G.stays F' N' (by repeat first | exact fun _ h => h | refine sub_tail ?_)) (FqP.out G N' (by k_mem) (by k_mem))
theorem use_rmul {tv : Tok} (F : Fr g L s.heap m) (N : News g L s.heap news) (X : (hd.heap_39 w.params).In g) (T : TopRead hd.view_39 (looseW hd.view_39 [Str.ofString "FQ"]) mg mb g) (ha : FqP w (Own g L) s.heap a p n) (hp : 1 < p) (hpb : p ≤ 10039) (hn0 : 0 ≤ n) (hn1 : n < p) (hv0 : 0 ≤ v) (hv1 : v ≤ 16) (hr : A.depth + 9 < recursionLimit)
    (h : ∀ x d t1 t2 t3 t4 h' tk' v', v' = n * v % p → 0 ≤ v' → v' < p → Fr g L h' m → News g L h' ((x, instObj 228 d) :: (d, fqDict w p v' t1 t2 t3 t4) :: news) → Q (.ref x) { s with heap := h', toks := tk' }) : wpAny (model prog w) A (call (.ref 105) [a, .int v tv]) Q E s :=
  use_fq F N X T (emod_pos_le hp) (emod_pos_lt hp) (fun _ C hQ => rmul_ok C ha hp hpb hn0 hn1 hv0 hv1 hr hQ) h
local macro_rules | `(tactic| walk_at "call ref") => `(tactic| (k_here; (with_reducible show wpAny _ _ (call (Value.ref 105) [Value.ref _, Value.int _ _]) _ _ _); (refine' use_rmul ?F ?N ?X ?T ?ha ?hp ?hpb ?hn0 ?hn1 ?hv0 ?hv1 ?hr ?_; (case F => k_asm); (case N => k_asm); (case X => k_asm); (case T => k_asm); (case ha => exact FqP.ofNews (by k_asm) (by k_mem) (by k_mem)); (case hp => first | assumption | omega); (case hpb => first | assumption | omega); (case hn0 => first | assumption | omega); (case hn1 => first | assumption | omega); (case hv0 => first | assumption | omega); (case hv1 => first | assumption | omega); (case hr => ((try simp only [depth_deeper, depth_in1, depth_under_make]); omega)); k_whole); intro x' d' t1' t2' t3' t4' h' tk' v' e' b1' b2' F' N'; (try k_sweep); (try dsimp only [PySem.W.CmpBack])))

theorem eq_ok (C : Cx w mg mb P h₀ s.heap) (ha : FqP w P s.heap a p n) (hb : FqP w P s.heap b p k) (hr : A.depth + 3 < recursionLimit)
    (hQ : ∀ h' tk', s.heap.StaysIn h' → Q (.bool (n == k)) { s with heap := h', toks := tk' }) :
    wpAny (model prog w) A (call (.ref 161) [a, b]) Q E s := by
  obtain ⟨x, d, t1, t2, t3, t4, rfl, a1, a2, P1, P2⟩ := ha
  obtain ⟨y, c, u1, u2, u3, u4, rfl, b1, b2, P3, P4⟩ := hb
  refine' enter (P := P) (h₀ := h₀) [(x, instObj 228 d), (d, fqDict w p n t1 t2 t3 t4), (y, instObj 228 c), (c, fqDict w p k u1 u2 u3 u4)] C ?ha ?k1 ?k2 ?k3 ?k4 ?k5 ?k6 ?k7 ?k8 ?k9 ?k10
  case ha => exact List.forall_mem_cons.mpr ⟨⟨a1, P1⟩, List.forall_mem_cons.mpr ⟨⟨a2, P2⟩, List.forall_mem_cons.mpr ⟨⟨b1, P3⟩, List.forall_mem_cons.mpr ⟨⟨b2, P4⟩, List.forall_mem_nil _⟩⟩⟩⟩
  case k1 => k_is
  case k2 => k_is
  case k3 => omega
  case k4 => exact BindsTo.of_eq (binds := [(Str.ofString "self", .ref x), (Str.ofString "other", .ref y)]) rfl
  case k5 => exact locs rfl
  case k7 => rfl
  case k8 => rfl
  case k9 => rfl
  case k10 => decide
  intro g' L' h' G F N X' T
  try dsimp only
  k_steps
  all_goals (rename News _ _ _ _ => N'; rename Fr _ _ _ _ => F')
  exact hQ _ _ (G.stays F' N' (by repeat first | exact fun _ h => h | refine sub_tail ?_))
theorem use_eq (F : Fr g L s.heap m) (N : News g L s.heap news) (X : (hd.heap_39 w.params).In g) (T : TopRead hd.view_39 (looseW hd.view_39 [Str.ofString "FQ"]) mg mb g) (ha : FqP w (Own g L) s.heap a p n) (hb : FqP w (Own g L) s.heap b p k) (hu : A.units < cLine) (hr : A.depth + 3 < recursionLimit)
    (h : ∀ h' tk', Fr g L h' m → News g L h' news → Q (.bool (n == k)) { s with heap := h', toks := tk' }) : wpAny (model prog w) A (compareOp .Eq a b) Q E s := by
  have C := Cx.ofFrame F X T
  have spec := @eq_ok prog w A s E (PySem.W.CmpBack Q) mg mb (Own g L) g p n k a b C ha hb hr fun h' tk' st => h h' tk' (Fr.stay F st) (News.stay N st)
  obtain ⟨x, d, t1, t2, t3, t4, rfl, a1, a2, _⟩ := ha
  obtain ⟨y, c, u1, u2, u3, u4, rfl, b1, b2, _⟩ := hb
  have I : InstAt s.heap x (instObj 228 d) 228 (some (fqDict w p n t1 t2 t3 t4)) := ⟨a1, rfl, rfl, a2⟩
  have J : InstAt s.heap y (instObj 228 c) 228 (some (fqDict w p k u1 u2 u3 u4)) := ⟨b1, rfl, rfl, b2⟩
  exact cmp_ofEq (cmp_K (f := 161) hu F X I J.type (by k_is) (by k_is) (by k_is) spec)

/-- an int by an FQ: __rmul__ -/
theorem use_mulif {tv : Tok} (F : Fr g L s.heap m) (N : News g L s.heap news) (X : (hd.heap_39 w.params).In g) (T : TopRead hd.view_39 (looseW hd.view_39 [Str.ofString "FQ"]) mg mb g) (ha : FqP w (Own g L) s.heap a p n) (hp : 1 < p) (hpb : p ≤ 10039) (hn0 : 0 ≤ n) (hn1 : n < p) (hv0 : 0 ≤ v) (hv1 : v ≤ 16) (hr : A.depth + 9 < recursionLimit)
    (h : ∀ x d t1 t2 t3 t4 h' tk' v', v' = n * v % p → 0 ≤ v' → v' < p → Fr g L h' m → News g L h' ((x, instObj 228 d) :: (d, fqDict w p v' t1 t2 t3 t4) :: news) → Q (.ref x) { s with heap := h', toks := tk' }) : wpAny (model prog w) A (binaryOp .Mult (.int v tv) a) Q E s := by
  have spec := @use_rmul prog w A s E (PySem.W.CmpBack Q) mg mb g L m news p v n a tv F N X T ha hp hpb hn0 hn1 hv0 hv1 hr h
  obtain ⟨x, d, t1, t2, t3, t4, rfl, a1, a2, _⟩ := ha
  exact mul_int_fq F X a1 a2 spec
end
end Mine
end

section
open PySem PySem.W PyProof.Rows PySem.Calls
set_option maxRecDepth 100000
set_option maxHeartbeats 8000000
namespace Mine
theorem fill4 (w : World) (h : Heap) : PySem.Challenge.rw_bb0059_01.Holds → (hd.heap_39 w.params).In h → True := by
  k_fill
  intros; trivial
local macro_rules | `(tactic| walk_at "call ref") => `(tactic| (k_here; (with_reducible show wpAny _ _ (call (Value.ref 228) [Value.int _ _, Value.int _ _]) _ _ _); (refine' use_new ?F ?N ?X ?T ?hp ?hr ?_; (case F => k_asm); (case N => k_asm); (case X => k_asm); (case T => k_asm); (case hp => first | assumption | omega); (case hr => ((try simp only [depth_deeper, depth_in1, depth_under_make]); omega)); k_whole); intro x' d' t1' t2' t3' t4' h' tk' v' e' b1' b2' F' N'; (try k_sweep); (try dsimp only [PySem.W.CmpBack])))
local macro_rules | `(tactic| walk_at "call ref") => `(tactic| (k_here; (with_reducible show wpAny _ _ (call (Value.ref 211) [Value.ref _, Value.int _ _]) _ _ _); (refine' use_made ?F ?N ?X ?T ?ha ?hp ?hr ?_; (case F => k_asm); (case N => k_asm); (case X => k_asm); (case T => k_asm); (case ha => exact FqP.ofNews (by k_asm) (by k_mem) (by k_mem)); (case hp => first | assumption | omega); (case hr => ((try simp only [depth_deeper, depth_in1, depth_under_make]); omega)); k_whole); intro x' d' t1' t2' t3' t4' h' tk' v' e' b1' b2' F' N'; (try k_sweep); (try dsimp only [PySem.W.CmpBack])))
local macro_rules | `(tactic| walk_at "call ref") => `(tactic| (k_here; (try dsimp only [List.nil_append, List.cons_append]); (with_reducible show wpAny _ _ (call (Value.ref 218) [Value.ref _]) _ _ _); (refine' use_one ?F ?N ?X ?T ?ha ?hp ?hr ?_; (case F => k_asm); (case N => k_asm); (case X => k_asm); (case T => k_asm); (case ha => exact FqP.ofNews (by k_asm) (by k_mem) (by k_mem)); (case hp => first | assumption | omega); (case hr => ((try simp only [depth_deeper, depth_in1, depth_under_make]); omega)); k_whole); intro x' d' t1' t2' t3' t4' h' tk' v' e' b1' b2' F' N'; (try k_sweep); (try dsimp only [PySem.W.CmpBack])))
local macro_rules | `(tactic| walk_at "call ref") => `(tactic| (k_here; (try dsimp only [List.nil_append, List.cons_append]); (with_reducible show wpAny _ _ (call (Value.ref 225) [Value.ref _]) _ _ _); (refine' use_zero ?F ?N ?X ?T ?ha ?hp ?hr ?_; (case F => k_asm); (case N => k_asm); (case X => k_asm); (case T => k_asm); (case ha => exact FqP.ofNews (by k_asm) (by k_mem) (by k_mem)); (case hp => first | assumption | omega); (case hr => ((try simp only [depth_deeper, depth_in1, depth_under_make]); omega)); k_whole); intro x' d' t1' t2' t3' t4' h' tk' v' e' b1' b2' F' N'; (try k_sweep); (try dsimp only [PySem.W.CmpBack])))
local macro_rules | `(tactic| walk_at "call ref") => `(tactic| (k_here; (try dsimp only [List.nil_append, List.cons_append]); (with_reducible show wpAny _ _ (call (Value.ref 175) [Value.ref _]) _ _ _); (refine' use_neg ?F ?N ?X ?T ?ha ?hp ?hpb ?hn0 ?hn1 ?hr ?_; (case F => k_asm); (case N => k_asm); (case X => k_asm); (case T => k_asm); (case ha => exact FqP.ofNews (by k_asm) (by k_mem) (by k_mem)); (case hp => first | assumption | omega); (case hpb => first | assumption | omega); (case hn0 => first | assumption | omega); (case hn1 => first | assumption | omega); (case hr => ((try simp only [depth_deeper, depth_in1, depth_under_make]); omega)); k_whole); intro x' d' t1' t2' t3' t4' h' tk' v' e' b1' b2' F' N'; (try k_sweep); (try dsimp only [PySem.W.CmpBack])))
local macro_rules | `(tactic| walk_at "call ref") => `(tactic| (k_here; (with_reducible show wpAny _ _ (call (Value.ref 98) [Value.ref _, Value.ref _]) _ _ _); (refine' use_mul ?F ?N ?X ?T ?ha ?hb ?hp ?hpb ?hn0 ?hn1 ?hk0 ?hk1 ?hr ?_; (case F => k_asm); (case N => k_asm); (case X => k_asm); (case T => k_asm); (case ha => exact FqP.ofNews (by k_asm) (by k_mem) (by k_mem)); (case hb => exact FqP.ofNews (by k_asm) (by k_mem) (by k_mem)); (case hp => first | assumption | omega); (case hpb => first | assumption | omega); (case hn0 => first | assumption | omega); (case hn1 => first | assumption | omega); (case hk0 => first | assumption | omega); (case hk1 => first | assumption | omega); (case hr => ((try simp only [depth_deeper, depth_in1, depth_under_make]); omega)); k_whole); intro x' d' t1' t2' t3' t4' h' tk' v' e' b1' b2' F' N'; (try k_sweep); (try dsimp only [PySem.W.CmpBack])))
local macro_rules | `(tactic| walk_at "call ref") => `(tactic| (k_here; (with_reducible show wpAny _ _ (call (Value.ref 126) [Value.ref _, Value.ref _]) _ _ _); (refine' use_sub ?F ?N ?X ?T ?ha ?hb ?hp ?hpb ?hn0 ?hn1 ?hk0 ?hk1 ?hr ?_; (case F => k_asm); (case N => k_asm); (case X => k_asm); (case T => k_asm); (case ha => exact FqP.ofNews (by k_asm) (by k_mem) (by k_mem)); (case hb => exact FqP.ofNews (by k_asm) (by k_mem) (by k_mem)); (case hp => first | assumption | omega); (case hpb => first | assumption | omega); (case hn0 => first | assumption | omega); (case hn1 => first | assumption | omega); (case hk0 => first | assumption | omega); (case hk1 => first | assumption | omega); (case hr => ((try simp only [depth_deeper, depth_in1, depth_under_make]); omega)); k_whole); intro x' d' t1' t2' t3' t4' h' tk' v' e' b1' b2' F' N'; (try k_sweep); (try dsimp only [PySem.W.CmpBack])))
local macro_rules | `(tactic| walk_at "call ref") => `(tactic| (k_here; (with_reducible show wpAny _ _ (call (Value.ref 98) [Value.ref _, Value.int _ _]) _ _ _); (refine' use_muli ?F ?N ?X ?T ?ha ?hp ?hpb ?hn0 ?hn1 ?hv0 ?hv1 ?hr ?_; (case F => k_asm); (case N => k_asm); (case X => k_asm); (case T => k_asm); (case ha => exact FqP.ofNews (by k_asm) (by k_mem) (by k_mem)); (case hp => first | assumption | omega); (case hpb => first | assumption | omega); (case hn0 => first | assumption | omega); (case hn1 => first | assumption | omega); (case hv0 => first | assumption | omega); (case hv1 => first | assumption | omega); (case hr => ((try simp only [depth_deeper, depth_in1, depth_under_make]); omega)); k_whole); intro x' d' t1' t2' t3' t4' h' tk' v' e' b1' b2' F' N'; (try k_sweep); (try dsimp only [PySem.W.CmpBack])))
local macro_rules | `(tactic| walk_at "call ref") => `(tactic| (k_here; (with_reducible show wpAny _ _ (call (Value.ref 105) [Value.ref _, Value.int _ _]) _ _ _); (refine' use_rmul ?F ?N ?X ?T ?ha ?hp ?hpb ?hn0 ?hn1 ?hv0 ?hv1 ?hr ?_; (case F => k_asm); (case N => k_asm); (case X => k_asm); (case T => k_asm); (case ha => exact FqP.ofNews (by k_asm) (by k_mem) (by k_mem)); (case hp => first | assumption | omega); (case hpb => first | assumption | omega); (case hn0 => first | assumption | omega); (case hn1 => first | assumption | omega); (case hv0 => first | assumption | omega); (case hv1 => first | assumption | omega); (case hr => ((try simp only [depth_deeper, depth_in1, depth_under_make]); omega)); k_whole); intro x' d' t1' t2' t3' t4' h' tk' v' e' b1' b2' F' N'; (try k_sweep); (try dsimp only [PySem.W.CmpBack])))
local macro_rules | `(tactic| walk_at "binaryOp Mult int ref") => `(tactic| (k_here; (with_reducible show wpAny _ _ (binaryOp Operator.Mult (Value.int _ _) (Value.ref _)) _ _ _); (refine' use_mulif ?F ?N ?X ?T ?ha ?hp ?hpb ?hn0 ?hn1 ?hv0 ?hv1 ?hr ?_; (case F => k_asm); (case N => k_asm); (case X => k_asm); (case T => k_asm); (case ha => exact FqP.ofNews (by k_asm) (by k_mem) (by k_mem)); (case hp => first | assumption | omega); (case hpb => first | assumption | omega); (case hn0 => first | assumption | omega); (case hn1 => first | assumption | omega); (case hv0 => first | assumption | omega); (case hv1 => first | assumption | omega); (case hr => ((try simp only [depth_deeper, depth_in1, depth_under_make]); omega)); k_whole); intro x' d' t1' t2' t3' t4' h' tk' v' e' b1' b2' F' N'; (try k_sweep); (try dsimp only [PySem.W.CmpBack])))
local macro_rules | `(tactic| walk_at "compareOp Eq ref") => `(tactic| (k_here; (with_reducible show wpAny _ _ (compareOp CmpOp.Eq (Value.ref _) (Value.ref _)) _ _ _); (refine' use_eq ?F ?N ?X ?T ?ha ?hb ?hu ?hr ?_; (case F => k_asm); (case N => k_asm); (case X => k_asm); (case T => k_asm); (case ha => exact FqP.ofNews (by k_asm) (by k_mem) (by k_mem)); (case hb => exact FqP.ofNews (by k_asm) (by k_mem) (by k_mem)); (case hu => ((try simp only [units_deeper, units_in1]); omega)); (case hr => ((try simp only [depth_deeper, depth_in1, depth_under_make]); omega)); k_whole); intro h' tk' F' N'; (try k_sweep); (try dsimp only)))
local macro_rules | `(tactic| walk_at "assign Tuple") => `(tactic| (k_here; (with_reducible show wpAny _ _ (assign (Expr.Tuple _ _ _) _ (Value.ref _)) _ _ _); k_dflt (refine' unpackN_ ?k1 ?k2 ?k3 ?k4 ?k5 ?k6 ?_; (case k1 => k_asm); (case k2 => k_asm); (case k3 => exact News.isTup (by k_asm) (by k_mem)); (case k4 => first | exact rfl | assumption); (case k5 => exact rfl); (case k6 => exact rfl); k_whole); intro h' F' N'; (try k_sweep)))
local macro_rules | `(tactic| walk_at "unpackItems ref") => `(tactic| (k_here; k_dflt (refine' unpackItemsN_ ?k1 ?k2 ?k3 ?k4 ?k5 ?_; (case k1 => k_asm); (case k2 => k_asm); (case k3 => exact News.isTup (by k_asm) (by k_mem)); (case k4 => first | exact rfl | assumption); (case k5 => exact rfl); k_whole); intro h' F' N'; (try k_sweep)))

abbrev tup3 (a b c : Value) : Obj := { cls := .type "tuple", data := .seq #[a, b, c] }
abbrev T3 := Int × Int × Int
/-- a point that may be used: a tuple of three FQs over one p, each rest in its range -/
def PtP (w : World) (P : Addr → Prop) (h : Heap) (v : Value) (p : Int) (t : T3) : Prop :=
  ∃ a v1 v2 v3, v = .ref a ∧ P a ∧ h.get? a = some (tup3 v1 v2 v3) ∧ FqP w P h v1 p t.1 ∧ FqP w P h v2 p t.2.1 ∧ FqP w P h v3 p t.2.2 ∧
    (0 ≤ t.1 ∧ t.1 < p) ∧ (0 ≤ t.2.1 ∧ t.2.1 < p) ∧ (0 ≤ t.2.2 ∧ t.2.2 < p)

def dblF (p : Int) (t : T3) : T3 :=
  let W := t.1 * 3 % p * t.1 % p
  let S := t.2.1 * t.2.2 % p
  let B := t.1 * t.2.1 % p * S % p
  let H := (W * W % p - B * 8 % p) % p
  let SS := S * S % p
  (H * 2 % p * S % p, (W * ((B * 4 % p - H) % p) % p - t.2.1 * 8 % p * t.2.1 % p * SS % p) % p, S * 8 % p * SS % p)

section
variable {prog : Program} {w : World} {A : Around} {s : Shared} {E : Value → Shared → Prop} {Q : Value → Shared → Prop} {R : Result → Shared → Prop} {mg mb : Str → Option Value} {P : Addr → Prop} {h₀ h h' g : Heap} {L : Addr} {m : Str → Option Value}
  {as news : List (Addr × Obj)} {p v n k : Int} {a b : Value} {t t' : T3}

theorem PtP.out {q x1 d1 x2 d2 x3 d3 : Addr} {t1 t2 t3 t4 u1 u2 u3 u4 w1 w2 w3 w4 : Tok} (G : Ground0 w mg mb P h₀ h g as) (N : News g L h' news) (m0 : (q, tup3 (.ref x1) (.ref x2) (.ref x3)) ∈ news)
    (m1 : (x1, instObj 228 d1) ∈ news) (m2 : (d1, fqDict w p t.1 t1 t2 t3 t4) ∈ news) (m3 : (x2, instObj 228 d2) ∈ news) (m4 : (d2, fqDict w p t.2.1 u1 u2 u3 u4) ∈ news) (m5 : (x3, instObj 228 d3) ∈ news) (m6 : (d3, fqDict w p t.2.2 w1 w2 w3 w4) ∈ news)
    (b1 : 0 ≤ t.1 ∧ t.1 < p) (b2 : 0 ≤ t.2.1 ∧ t.2.1 < p) (b3 : 0 ≤ t.2.2 ∧ t.2.2 < p) : PtP w P h' (.ref q) p t :=
  ⟨q, _, _, _, rfl, G.pOf N m0, (N _ m0).1, FqP.out G N m1 m2, FqP.out G N m3 m4, FqP.out G N m5 m6, b1, b2, b3⟩
theorem PtP.ofNews {q x1 d1 x2 d2 x3 d3 : Addr} {t1 t2 t3 t4 u1 u2 u3 u4 w1 w2 w3 w4 : Tok} {a b c : Int} (N : News g L h news) (m0 : (q, tup3 (.ref x1) (.ref x2) (.ref x3)) ∈ news)
    (m1 : (x1, instObj 228 d1) ∈ news) (m2 : (d1, fqDict w p a t1 t2 t3 t4) ∈ news) (m3 : (x2, instObj 228 d2) ∈ news) (m4 : (d2, fqDict w p b u1 u2 u3 u4) ∈ news) (m5 : (x3, instObj 228 d3) ∈ news) (m6 : (d3, fqDict w p c w1 w2 w3 w4) ∈ news)
    (b1 : 0 ≤ a ∧ a < p) (b2 : 0 ≤ b ∧ b < p) (b3 : 0 ≤ c ∧ c < p) : PtP w (Own g L) h (.ref q) p (a, b, c) :=
  ⟨q, _, _, _, rfl, ⟨(N _ m0).2.2, (N _ m0).2.1⟩, (N _ m0).1, FqP.ofNews N m1 m2, FqP.ofNews N m3 m4, FqP.ofNews N m5 m6, b1, b2, b3⟩
theorem PtP.stay (x : PtP w P h a p t) (k : h.StaysIn h') : PtP w P h' a p t :=
  let ⟨q, v1, v2, v3, e, pq, hq, f1, f2, f3, r⟩ := x; ⟨q, v1, v2, v3, e, pq, k _ _ hq, f1.stay k, f2.stay k, f3.stay k, r⟩

/-- a point comes back to a frame: its seven objects go onto the ledger -/
theorem use_pt {tr : Sem Value} (F : Fr g L s.heap m) (N : News g L s.heap news) (X : (hd.heap_39 w.params).In g) (T : TopRead hd.view_39 (looseW hd.view_39 [Str.ofString "FQ"]) mg mb g)
    (spec : ∀ Q' : Value → Shared → Prop, Cx w mg mb (Own g L) g s.heap → (∀ r h' tk', s.heap.StaysIn h' → PtP w (Own g L) h' r p t → Q' r { s with heap := h', toks := tk' }) → wpAny (model prog w) A tr Q' E s)
    (h : ∀ q x1 d1 t1 t2 t3 t4 x2 d2 u1 u2 u3 u4 x3 d3 w1 w2 w3 w4 h' tk' a b c, (a, b, c) = t → 0 ≤ a → a < p → 0 ≤ b → b < p → 0 ≤ c → c < p → Fr g L h' m →
      News g L h' ((q, tup3 (.ref x1) (.ref x2) (.ref x3)) :: (x1, instObj 228 d1) :: (d1, fqDict w p a t1 t2 t3 t4) :: (x2, instObj 228 d2) :: (d2, fqDict w p b u1 u2 u3 u4) :: (x3, instObj 228 d3) :: (d3, fqDict w p c w1 w2 w3 w4) :: news) →
      Q (.ref q) { s with heap := h', toks := tk' }) :
    wpAny (model prog w) A tr Q E s := by
  refine spec Q (Cx.ofFrame F X T) fun r h' tk' st q => ?_
  obtain ⟨q, _, _, _, rfl, Pq, hq, ⟨x1, d1, t1, t2, t3, t4, rfl, a1, a2, P1, P2⟩, ⟨x2, d2, u1, u2, u3, u4, rfl, a3, a4, P3, P4⟩, ⟨x3, d3, w1, w2, w3, w4, rfl, a5, a6, P5, P6⟩, ⟨r1, r2⟩, ⟨r3, r4⟩, ⟨r5, r6⟩⟩ := q
  refine h q x1 d1 t1 t2 t3 t4 x2 d2 u1 u2 u3 u4 x3 d3 w1 w2 w3 w4 h' tk' t.1 t.2.1 t.2.2 rfl r1 r2 r3 r4 r5 r6 (Fr.stay F st) ?_
  refine List.forall_mem_cons.mpr ⟨⟨hq, Pq.2, Pq.1⟩, List.forall_mem_cons.mpr ⟨⟨a1, P1.2, P1.1⟩, List.forall_mem_cons.mpr ⟨⟨a2, P2.2, P2.1⟩, List.forall_mem_cons.mpr ⟨⟨a3, P3.2, P3.1⟩, List.forall_mem_cons.mpr ⟨⟨a4, P4.2, P4.1⟩, List.forall_mem_cons.mpr ⟨⟨a5, P5.2, P5.1⟩, List.forall_mem_cons.mpr ⟨⟨a6, P6.2, P6.1⟩, News.stay N st⟩⟩⟩⟩⟩⟩⟩

def addF (p : Int) (t t' : T3) : T3 :=
  if t.2.2 = 0 ∨ t'.2.2 = 0 then (if t'.2.2 = 0 then t else t') else
  let U1 := t'.2.1 * t.2.2 % p
  let U2 := t.2.1 * t'.2.2 % p
  let V1 := t'.1 * t.2.2 % p
  let V2 := t.1 * t'.2.2 % p
  if V1 = V2 ∧ U1 = U2 then dblF p t else if V1 = V2 then (1, 1, 0) else
  let U := (U1 - U2) % p
  let V := (V1 - V2) % p
  let VV := V * V % p
  let VW := VV * V2 % p
  let VC := V * VV % p
  let W := t.2.2 * t'.2.2 % p
  let D := ((U * U % p * W % p - VC) % p - VW * 2 % p) % p
  (V * D % p, (U * ((VW - D) % p) % p - VC * U2 % p) % p, VC * W % p)

theorem double_ok (C : Cx w mg mb P h₀ s.heap) (ha : PtP w P s.heap a p t) (hp : 1 < p) (hpb : p ≤ 10039) (hh : A.handled = none) (hr : A.depth + 11 < recursionLimit)
    (hQ : ∀ r h' tk', s.heap.StaysIn h' → PtP w P h' r p (dblF p t) → Q r { s with heap := h', toks := tk' }) :
    wpAny (model prog w) A (call (.ref 35) [a]) Q E s := by
  obtain ⟨tx, ty, tz⟩ := t
  obtain ⟨q, _, _, _, rfl, Pq, hq, ⟨x1, d1, t1, t2, t3, t4, rfl, a1, a2, P1, P2⟩, ⟨x2, d2, u1, u2, u3, u4, rfl, a3, a4, P3, P4⟩, ⟨x3, d3, w1, w2, w3, w4, rfl, a5, a6, P5, P6⟩, ⟨r1, r2⟩, ⟨r3, r4⟩, ⟨r5, r6⟩⟩ := ha
  dsimp only at *
  refine' enter (P := P) (h₀ := h₀) [(q, tup3 (.ref x1) (.ref x2) (.ref x3)), (x1, instObj 228 d1), (d1, fqDict w p tx t1 t2 t3 t4), (x2, instObj 228 d2), (d2, fqDict w p ty u1 u2 u3 u4), (x3, instObj 228 d3), (d3, fqDict w p tz w1 w2 w3 w4)] C ?ha ?k1 ?k2 ?k3 ?k4 ?k5 ?k6 ?k7 ?k8 ?k9 ?k10
  case ha => exact List.forall_mem_cons.mpr ⟨⟨hq, Pq⟩, List.forall_mem_cons.mpr ⟨⟨a1, P1⟩, List.forall_mem_cons.mpr ⟨⟨a2, P2⟩, List.forall_mem_cons.mpr ⟨⟨a3, P3⟩, List.forall_mem_cons.mpr ⟨⟨a4, P4⟩, List.forall_mem_cons.mpr ⟨⟨a5, P5⟩, List.forall_mem_cons.mpr ⟨⟨a6, P6⟩, List.forall_mem_nil _⟩⟩⟩⟩⟩⟩⟩
  case k1 => k_is
  case k2 => k_is
  case k3 => omega
  case k4 => exact BindsTo.of_eq (binds := [(Str.ofString "pt", .ref q)]) rfl
  case k5 => exact locs rfl
  case k7 => rfl
  case k8 => rfl
  case k9 => rfl
  case k10 => decide
  intro g' L' h' G F N X' T
  try dsimp only
  k_steps
  all_goals (rename News _ _ _ _ => N'; rename Fr _ _ _ _ => F'; try subst_vars)
  exact hQ _ _ _ (G.stays F' N' (by repeat first | exact fun _ h => h | refine sub_tail ?_)) (PtP.out G N' (by k_mem) (by k_mem) (by k_mem) (by k_mem) (by k_mem) (by k_mem) (by k_mem) ⟨emod_pos_le hp, emod_pos_lt hp⟩ ⟨emod_pos_le hp, emod_pos_lt hp⟩ ⟨emod_pos_le hp, emod_pos_lt hp⟩)
theorem use_double (F : Fr g L s.heap m) (N : News g L s.heap news) (X : (hd.heap_39 w.params).In g) (T : TopRead hd.view_39 (looseW hd.view_39 [Str.ofString "FQ"]) mg mb g) (ha : PtP w (Own g L) s.heap a p t) (hp : 1 < p) (hpb : p ≤ 10039) (hh : A.handled = none) (hr : A.depth + 11 < recursionLimit)
    (h : ∀ q x1 d1 t1 t2 t3 t4 x2 d2 u1 u2 u3 u4 x3 d3 w1 w2 w3 w4 h' tk' a b c, (a, b, c) = dblF p t → 0 ≤ a → a < p → 0 ≤ b → b < p → 0 ≤ c → c < p → Fr g L h' m →
      News g L h' ((q, tup3 (.ref x1) (.ref x2) (.ref x3)) :: (x1, instObj 228 d1) :: (d1, fqDict w p a t1 t2 t3 t4) :: (x2, instObj 228 d2) :: (d2, fqDict w p b u1 u2 u3 u4) :: (x3, instObj 228 d3) :: (d3, fqDict w p c w1 w2 w3 w4) :: news) →
      Q (.ref q) { s with heap := h', toks := tk' }) : wpAny (model prog w) A (call (.ref 35) [a]) Q E s :=
  use_pt F N X T (fun _ C hQ => double_ok C ha hp hpb hh hr hQ) h
local macro_rules | `(tactic| walk_at "call ref") => `(tactic| (k_here; (try dsimp only [List.nil_append, List.cons_append]); (with_reducible show wpAny _ _ (call (Value.ref 35) [Value.ref _]) _ _ _); (refine' use_double ?F ?N ?X ?T ?ha ?hp ?hpb ?hh ?hr ?_; (case F => k_asm); (case N => k_asm); (case X => k_asm); (case T => k_asm); (case ha => exact PtP.ofNews (by k_asm) (by k_mem) (by k_mem) (by k_mem) (by k_mem) (by k_mem) (by k_mem) (by k_mem) ⟨by first | assumption | omega, by first | assumption | omega⟩ ⟨by first | assumption | omega, by first | assumption | omega⟩ ⟨by first | assumption | omega, by first | assumption | omega⟩); (case hp => first | assumption | omega); (case hpb => first | assumption | omega); (case hh => first | exact rfl | assumption); (case hr => ((try simp only [depth_deeper, depth_in1, depth_under_make]); omega)); k_whole); intro q' x1' d1' t1' t2' t3' t4' x2' d2' u1' u2' u3' u4' x3' d3' w1' w2' w3' w4' h' tk' va' vb' vc' e' b1' b2' b3' b4' b5' b6' F' N'; (try k_sweep); (try dsimp only)))

theorem addF_inf2 (h : t'.2.2 = 0) : addF p t t' = t := by unfold addF; rw [if_pos (.inr h), if_pos h]
theorem addF_inf1 (h : t.2.2 = 0) (h' : t'.2.2 ≠ 0) : addF p t t' = t' := by unfold addF; rw [if_pos (.inl h), if_neg h']
theorem addF_dbl (h : t.2.2 ≠ 0) (h' : t'.2.2 ≠ 0) (hV : t'.1 * t.2.2 % p = t.1 * t'.2.2 % p) (hU : t'.2.1 * t.2.2 % p = t.2.1 * t'.2.2 % p) : addF p t t' = dblF p t := by
  unfold addF; rw [if_neg (fun q => q.elim h h')]; exact if_pos ⟨hV, hU⟩
theorem addF_opp (h : t.2.2 ≠ 0) (h' : t'.2.2 ≠ 0) (hV : t'.1 * t.2.2 % p = t.1 * t'.2.2 % p) (hU : t'.2.1 * t.2.2 % p ≠ t.2.1 * t'.2.2 % p) : addF p t t' = (1, 1, 0) := by
  unfold addF; rw [if_neg (fun q => q.elim h h')]; dsimp only; rw [if_neg (fun q => hU q.2), if_pos hV]
/-- the sum's formula, off the special cases -/
def addG (p : Int) (t t' : T3) : T3 :=
  let U1 := t'.2.1 * t.2.2 % p
  let U2 := t.2.1 * t'.2.2 % p
  let V1 := t'.1 * t.2.2 % p
  let V2 := t.1 * t'.2.2 % p
  let U := (U1 - U2) % p
  let V := (V1 - V2) % p
  let VV := V * V % p
  let VW := VV * V2 % p
  let VC := V * VV % p
  let W := t.2.2 * t'.2.2 % p
  let D := ((U * U % p * W % p - VC) % p - VW * 2 % p) % p
  (V * D % p, (U * ((VW - D) % p) % p - VC * U2 % p) % p, VC * W % p)
theorem addF_gen (h : t.2.2 ≠ 0) (h' : t'.2.2 ≠ 0) (hV : t'.1 * t.2.2 % p ≠ t.1 * t'.2.2 % p) : addF p t t' = addG p t t' := by
  unfold addF; rw [if_neg (fun q => q.elim h h')]; dsimp only; rw [if_neg (fun q => hV q.1), if_neg hV]; rfl

theorem add_ok (C : Cx w mg mb P h₀ s.heap) (ha : PtP w P s.heap a p t) (hb : PtP w P s.heap b p t') (hp : 1 < p) (hpb : p ≤ 10039) (hh : A.handled = none) (hu : A.units + 3 < cLine) (hr : A.depth + 13 < recursionLimit)
    (hQ : ∀ r h' tk', s.heap.StaysIn h' → PtP w P h' r p (addF p t t') → Q r { s with heap := h', toks := tk' }) :
    wpAny (model prog w) A (call (.ref 42) [a, b]) Q E s := by
  obtain ⟨tx, ty, tz⟩ := t
  obtain ⟨q, _, _, _, rfl, Pq, hq, ⟨x1, d1, t1, t2, t3, t4, rfl, a1, a2, P1, P2⟩, ⟨x2, d2, u1, u2, u3, u4, rfl, a3, a4, P3, P4⟩, ⟨x3, d3, w1, w2, w3, w4, rfl, a5, a6, P5, P6⟩, ⟨r1, r2⟩, ⟨r3, r4⟩, ⟨r5, r6⟩⟩ := ha
  obtain ⟨tx', ty', tz'⟩ := t'
  obtain ⟨q', _, _, _, rfl, Pq', hq', ⟨y1, e1, i1, i2, i3, i4, rfl, c1, c2, P11, P12⟩, ⟨y2, e2, j1, j2, j3, j4, rfl, c3, c4, P13, P14⟩, ⟨y3, e3, k1, k2, k3, k4, rfl, c5, c6, P15, P16⟩, ⟨r11, r12⟩, ⟨r13, r14⟩, ⟨r15, r16⟩⟩ := hb
  dsimp only at *
  refine' enter (P := P) (h₀ := h₀) [(q, tup3 (.ref x1) (.ref x2) (.ref x3)), (x1, instObj 228 d1), (d1, fqDict w p tx t1 t2 t3 t4), (x2, instObj 228 d2), (d2, fqDict w p ty u1 u2 u3 u4), (x3, instObj 228 d3), (d3, fqDict w p tz w1 w2 w3 w4), (q', tup3 (.ref y1) (.ref y2) (.ref y3)), (y1, instObj 228 e1), (e1, fqDict w p tx' i1 i2 i3 i4), (y2, instObj 228 e2), (e2, fqDict w p ty' j1 j2 j3 j4), (y3, instObj 228 e3), (e3, fqDict w p tz' k1 k2 k3 k4)] C ?ha ?k1 ?k2 ?k3 ?k4 ?k5 ?k6 ?k7 ?k8 ?k9 ?k10
  case ha => exact List.forall_mem_cons.mpr ⟨⟨hq, Pq⟩, List.forall_mem_cons.mpr ⟨⟨a1, P1⟩, List.forall_mem_cons.mpr ⟨⟨a2, P2⟩, List.forall_mem_cons.mpr ⟨⟨a3, P3⟩, List.forall_mem_cons.mpr ⟨⟨a4, P4⟩, List.forall_mem_cons.mpr ⟨⟨a5, P5⟩, List.forall_mem_cons.mpr ⟨⟨a6, P6⟩, List.forall_mem_cons.mpr ⟨⟨hq', Pq'⟩, List.forall_mem_cons.mpr ⟨⟨c1, P11⟩, List.forall_mem_cons.mpr ⟨⟨c2, P12⟩, List.forall_mem_cons.mpr ⟨⟨c3, P13⟩, List.forall_mem_cons.mpr ⟨⟨c4, P14⟩, List.forall_mem_cons.mpr ⟨⟨c5, P15⟩, List.forall_mem_cons.mpr ⟨⟨c6, P16⟩, List.forall_mem_nil _⟩⟩⟩⟩⟩⟩⟩⟩⟩⟩⟩⟩⟩⟩
  case k1 => k_is
  case k2 => k_is
  case k3 => omega
  case k4 => exact BindsTo.of_eq (binds := [(Str.ofString "p1", .ref q), (Str.ofString "p2", .ref q')]) rfl
  case k5 => exact locs rfl
  case k7 => rfl
  case k8 => rfl
  case k9 => rfl
  case k10 => decide
  intro g' L' h' G F N X' T
  try dsimp only
  k_steps
  all_goals (rename News _ _ _ _ => N'; rename Fr _ _ _ _ => F'; subst_vars; refine hQ _ _ _ (G.stays F' N' (by repeat first | exact fun _ h => h | refine sub_tail ?_)) ?_)
  all_goals first
    | (rw [addF_inf2 (by first | rfl | assumption)]; exact PtP.out G N' (by k_mem) (by k_mem) (by k_mem) (by k_mem) (by k_mem) (by k_mem) (by k_mem) ⟨by first | assumption | omega, by first | assumption | omega⟩ ⟨by first | assumption | omega, by first | assumption | omega⟩ ⟨by first | assumption | omega, by first | assumption | omega⟩)
    | (rw [addF_inf1 (by first | rfl | assumption) (by assumption)]; exact PtP.out G N' (by k_mem) (by k_mem) (by k_mem) (by k_mem) (by k_mem) (by k_mem) (by k_mem) ⟨by first | assumption | omega, by first | assumption | omega⟩ ⟨by first | assumption | omega, by first | assumption | omega⟩ ⟨by first | assumption | omega, by first | assumption | omega⟩)
    | (rw [addF_opp (by assumption) (by assumption) (by assumption) (by assumption)]; exact PtP.out G N' (by k_mem) (by k_mem) (by k_mem) (by k_mem) (by k_mem) (by k_mem) (by k_mem) ⟨by first | assumption | omega, by first | assumption | omega⟩ ⟨by first | assumption | omega, by first | assumption | omega⟩ ⟨by first | assumption | omega, by first | assumption | omega⟩)
    | (rw [addF_gen (by assumption) (by assumption) (by assumption)]; exact PtP.out G N' (by k_mem) (by k_mem) (by k_mem) (by k_mem) (by k_mem) (by k_mem) (by k_mem) ⟨emod_pos_le hp, emod_pos_lt hp⟩ ⟨emod_pos_le hp, emod_pos_lt hp⟩ ⟨emod_pos_le hp, emod_pos_lt hp⟩)
    | (rename (_, _, _) = dblF _ _ => hd9; rw [addF_dbl (by assumption) (by assumption) (by assumption) (by assumption), ← hd9]; exact PtP.out G N' (by k_mem) (by k_mem) (by k_mem) (by k_mem) (by k_mem) (by k_mem) (by k_mem) ⟨by first | assumption | omega, by first | assumption | omega⟩ ⟨by first | assumption | omega, by first | assumption | omega⟩ ⟨by first | assumption | omega, by first | assumption | omega⟩)
    | contradiction
end
end Mine
end

section
open PySem PySem.W PyProof.Rows PySem.Calls
set_option maxRecDepth 100000
set_option maxHeartbeats 8000000
namespace Mine
theorem fill5 (w : World) (h : Heap) : PySem.Challenge.rw_bb0059_01.Holds → (hd.heap_39 w.params).In h → True := by
  k_fill
  intros; trivial
local macro_rules | `(tactic| walk_at "call ref") => `(tactic| (k_here; (with_reducible show wpAny _ _ (call (Value.ref 228) [Value.int _ _, Value.int _ _]) _ _ _); (refine' use_new ?F ?N ?X ?T ?hp ?hr ?_; (case F => k_asm); (case N => k_asm); (case X => k_asm); (case T => k_asm); (case hp => first | assumption | omega); (case hr => ((try simp only [depth_deeper, depth_in1, depth_under_make]); omega)); k_whole); intro x' d' t1' t2' t3' t4' h' tk' v' e' b1' b2' F' N'; (try k_sweep); (try dsimp only [PySem.W.CmpBack])))
local macro_rules | `(tactic| walk_at "call ref") => `(tactic| (k_here; (with_reducible show wpAny _ _ (call (Value.ref 211) [Value.ref _, Value.int _ _]) _ _ _); (refine' use_made ?F ?N ?X ?T ?ha ?hp ?hr ?_; (case F => k_asm); (case N => k_asm); (case X => k_asm); (case T => k_asm); (case ha => exact FqP.ofNews (by k_asm) (by k_mem) (by k_mem)); (case hp => first | assumption | omega); (case hr => ((try simp only [depth_deeper, depth_in1, depth_under_make]); omega)); k_whole); intro x' d' t1' t2' t3' t4' h' tk' v' e' b1' b2' F' N'; (try k_sweep); (try dsimp only [PySem.W.CmpBack])))
local macro_rules | `(tactic| walk_at "call ref") => `(tactic| (k_here; (try dsimp only [List.nil_append, List.cons_append]); (with_reducible show wpAny _ _ (call (Value.ref 218) [Value.ref _]) _ _ _); (refine' use_one ?F ?N ?X ?T ?ha ?hp ?hr ?_; (case F => k_asm); (case N => k_asm); (case X => k_asm); (case T => k_asm); (case ha => exact FqP.ofNews (by k_asm) (by k_mem) (by k_mem)); (case hp => first | assumption | omega); (case hr => ((try simp only [depth_deeper, depth_in1, depth_under_make]); omega)); k_whole); intro x' d' t1' t2' t3' t4' h' tk' v' e' b1' b2' F' N'; (try k_sweep); (try dsimp only [PySem.W.CmpBack])))
local macro_rules | `(tactic| walk_at "call ref") => `(tactic| (k_here; (try dsimp only [List.nil_append, List.cons_append]); (with_reducible show wpAny _ _ (call (Value.ref 225) [Value.ref _]) _ _ _); (refine' use_zero ?F ?N ?X ?T ?ha ?hp ?hr ?_; (case F => k_asm); (case N => k_asm); (case X => k_asm); (case T => k_asm); (case ha => exact FqP.ofNews (by k_asm) (by k_mem) (by k_mem)); (case hp => first | assumption | omega); (case hr => ((try simp only [depth_deeper, depth_in1, depth_under_make]); omega)); k_whole); intro x' d' t1' t2' t3' t4' h' tk' v' e' b1' b2' F' N'; (try k_sweep); (try dsimp only [PySem.W.CmpBack])))
local macro_rules | `(tactic| walk_at "call ref") => `(tactic| (k_here; (try dsimp only [List.nil_append, List.cons_append]); (with_reducible show wpAny _ _ (call (Value.ref 175) [Value.ref _]) _ _ _); (refine' use_neg ?F ?N ?X ?T ?ha ?hp ?hpb ?hn0 ?hn1 ?hr ?_; (case F => k_asm); (case N => k_asm); (case X => k_asm); (case T => k_asm); (case ha => exact FqP.ofNews (by k_asm) (by k_mem) (by k_mem)); (case hp => first | assumption | omega); (case hpb => first | assumption | omega); (case hn0 => first | assumption | omega); (case hn1 => first | assumption | omega); (case hr => ((try simp only [depth_deeper, depth_in1, depth_under_make]); omega)); k_whole); intro x' d' t1' t2' t3' t4' h' tk' v' e' b1' b2' F' N'; (try k_sweep); (try dsimp only [PySem.W.CmpBack])))
local macro_rules | `(tactic| walk_at "call ref") => `(tactic| (k_here; (with_reducible show wpAny _ _ (call (Value.ref 98) [Value.ref _, Value.ref _]) _ _ _); (refine' use_mul ?F ?N ?X ?T ?ha ?hb ?hp ?hpb ?hn0 ?hn1 ?hk0 ?hk1 ?hr ?_; (case F => k_asm); (case N => k_asm); (case X => k_asm); (case T => k_asm); (case ha => exact FqP.ofNews (by k_asm) (by k_mem) (by k_mem)); (case hb => exact FqP.ofNews (by k_asm) (by k_mem) (by k_mem)); (case hp => first | assumption | omega); (case hpb => first | assumption | omega); (case hn0 => first | assumption | omega); (case hn1 => first | assumption | omega); (case hk0 => first | assumption | omega); (case hk1 => first | assumption | omega); (case hr => ((try simp only [depth_deeper, depth_in1, depth_under_make]); omega)); k_whole); intro x' d' t1' t2' t3' t4' h' tk' v' e' b1' b2' F' N'; (try k_sweep); (try dsimp only [PySem.W.CmpBack])))
local macro_rules | `(tactic| walk_at "call ref") => `(tactic| (k_here; (with_reducible show wpAny _ _ (call (Value.ref 126) [Value.ref _, Value.ref _]) _ _ _); (refine' use_sub ?F ?N ?X ?T ?ha ?hb ?hp ?hpb ?hn0 ?hn1 ?hk0 ?hk1 ?hr ?_; (case F => k_asm); (case N => k_asm); (case X => k_asm); (case T => k_asm); (case ha => exact FqP.ofNews (by k_asm) (by k_mem) (by k_mem)); (case hb => exact FqP.ofNews (by k_asm) (by k_mem) (by k_mem)); (case hp => first | assumption | omega); (case hpb => first | assumption | omega); (case hn0 => first | assumption | omega); (case hn1 => first | assumption | omega); (case hk0 => first | assumption | omega); (case hk1 => first | assumption | omega); (case hr => ((try simp only [depth_deeper, depth_in1, depth_under_make]); omega)); k_whole); intro x' d' t1' t2' t3' t4' h' tk' v' e' b1' b2' F' N'; (try k_sweep); (try dsimp only [PySem.W.CmpBack])))
local macro_rules | `(tactic| walk_at "call ref") => `(tactic| (k_here; (with_reducible show wpAny _ _ (call (Value.ref 98) [Value.ref _, Value.int _ _]) _ _ _); (refine' use_muli ?F ?N ?X ?T ?ha ?hp ?hpb ?hn0 ?hn1 ?hv0 ?hv1 ?hr ?_; (case F => k_asm); (case N => k_asm); (case X => k_asm); (case T => k_asm); (case ha => exact FqP.ofNews (by k_asm) (by k_mem) (by k_mem)); (case hp => first | assumption | omega); (case hpb => first | assumption | omega); (case hn0 => first | assumption | omega); (case hn1 => first | assumption | omega); (case hv0 => first | assumption | omega); (case hv1 => first | assumption | omega); (case hr => ((try simp only [depth_deeper, depth_in1, depth_under_make]); omega)); k_whole); intro x' d' t1' t2' t3' t4' h' tk' v' e' b1' b2' F' N'; (try k_sweep); (try dsimp only [PySem.W.CmpBack])))
local macro_rules | `(tactic| walk_at "call ref") => `(tactic| (k_here; (with_reducible show wpAny _ _ (call (Value.ref 105) [Value.ref _, Value.int _ _]) _ _ _); (refine' use_rmul ?F ?N ?X ?T ?ha ?hp ?hpb ?hn0 ?hn1 ?hv0 ?hv1 ?hr ?_; (case F => k_asm); (case N => k_asm); (case X => k_asm); (case T => k_asm); (case ha => exact FqP.ofNews (by k_asm) (by k_mem) (by k_mem)); (case hp => first | assumption | omega); (case hpb => first | assumption | omega); (case hn0 => first | assumption | omega); (case hn1 => first | assumption | omega); (case hv0 => first | assumption | omega); (case hv1 => first | assumption | omega); (case hr => ((try simp only [depth_deeper, depth_in1, depth_under_make]); omega)); k_whole); intro x' d' t1' t2' t3' t4' h' tk' v' e' b1' b2' F' N'; (try k_sweep); (try dsimp only [PySem.W.CmpBack])))
local macro_rules | `(tactic| walk_at "binaryOp Mult int ref") => `(tactic| (k_here; (with_reducible show wpAny _ _ (binaryOp Operator.Mult (Value.int _ _) (Value.ref _)) _ _ _); (refine' use_mulif ?F ?N ?X ?T ?ha ?hp ?hpb ?hn0 ?hn1 ?hv0 ?hv1 ?hr ?_; (case F => k_asm); (case N => k_asm); (case X => k_asm); (case T => k_asm); (case ha => exact FqP.ofNews (by k_asm) (by k_mem) (by k_mem)); (case hp => first | assumption | omega); (case hpb => first | assumption | omega); (case hn0 => first | assumption | omega); (case hn1 => first | assumption | omega); (case hv0 => first | assumption | omega); (case hv1 => first | assumption | omega); (case hr => ((try simp only [depth_deeper, depth_in1, depth_under_make]); omega)); k_whole); intro x' d' t1' t2' t3' t4' h' tk' v' e' b1' b2' F' N'; (try k_sweep); (try dsimp only [PySem.W.CmpBack])))
local macro_rules | `(tactic| walk_at "compareOp Eq ref") => `(tactic| (k_here; (with_reducible show wpAny _ _ (compareOp CmpOp.Eq (Value.ref _) (Value.ref _)) _ _ _); (refine' use_eq ?F ?N ?X ?T ?ha ?hb ?hu ?hr ?_; (case F => k_asm); (case N => k_asm); (case X => k_asm); (case T => k_asm); (case ha => exact FqP.ofNews (by k_asm) (by k_mem) (by k_mem)); (case hb => exact FqP.ofNews (by k_asm) (by k_mem) (by k_mem)); (case hu => ((try simp only [units_deeper, units_in1]); omega)); (case hr => ((try simp only [depth_deeper, depth_in1, depth_under_make]); omega)); k_whole); intro h' tk' F' N'; (try k_sweep); (try dsimp only)))
local macro_rules | `(tactic| walk_at "assign Tuple") => `(tactic| (k_here; (with_reducible show wpAny _ _ (assign (Expr.Tuple _ _ _) _ (Value.ref _)) _ _ _); k_dflt (refine' unpackN_ ?k1 ?k2 ?k3 ?k4 ?k5 ?k6 ?_; (case k1 => k_asm); (case k2 => k_asm); (case k3 => exact News.isTup (by k_asm) (by k_mem)); (case k4 => first | exact rfl | assumption); (case k5 => exact rfl); (case k6 => exact rfl); k_whole); intro h' F' N'; (try k_sweep)))
local macro_rules | `(tactic| walk_at "unpackItems ref") => `(tactic| (k_here; k_dflt (refine' unpackItemsN_ ?k1 ?k2 ?k3 ?k4 ?k5 ?_; (case k1 => k_asm); (case k2 => k_asm); (case k3 => exact News.isTup (by k_asm) (by k_mem)); (case k4 => first | exact rfl | assumption); (case k5 => exact rfl); k_whole); intro h' F' N'; (try k_sweep)))
local macro_rules | `(tactic| walk_at "call ref") => `(tactic| (k_here; (try dsimp only [List.nil_append, List.cons_append]); (with_reducible show wpAny _ _ (call (Value.ref 35) [Value.ref _]) _ _ _); (refine' use_double ?F ?N ?X ?T ?ha ?hp ?hpb ?hh ?hr ?_; (case F => k_asm); (case N => k_asm); (case X => k_asm); (case T => k_asm); (case ha => exact PtP.ofNews (by k_asm) (by k_mem) (by k_mem) (by k_mem) (by k_mem) (by k_mem) (by k_mem) (by k_mem) ⟨by first | assumption | omega, by first | assumption | omega⟩ ⟨by first | assumption | omega, by first | assumption | omega⟩ ⟨by first | assumption | omega, by first | assumption | omega⟩); (case hp => first | assumption | omega); (case hpb => first | assumption | omega); (case hh => first | exact rfl | assumption); (case hr => ((try simp only [depth_deeper, depth_in1, depth_under_make]); omega)); k_whole); intro q' x1' d1' t1' t2' t3' t4' x2' d2' u1' u2' u3' u4' x3' d3' w1' w2' w3' w4' h' tk' va' vb' vc' e' b1' b2' b3' b4' b5' b6' F' N'; (try k_sweep); (try dsimp only)))

section
variable {prog : Program} {w : World} {A : Around} {s : Shared} {E : Value → Shared → Prop} {Q : Value → Shared → Prop} {R : Result → Shared → Prop} {mg mb : Str → Option Value} {P : Addr → Prop} {h₀ h h' g : Heap} {L : Addr} {m : Str → Option Value}
  {as news : List (Addr × Obj)} {p v n : Int} {k : Nat} {a b : Value} {t t' : T3}
theorem use_add (F : Fr g L s.heap m) (N : News g L s.heap news) (X : (hd.heap_39 w.params).In g) (T : TopRead hd.view_39 (looseW hd.view_39 [Str.ofString "FQ"]) mg mb g) (ha : PtP w (Own g L) s.heap a p t) (hb : PtP w (Own g L) s.heap b p t') (hp : 1 < p) (hpb : p ≤ 10039) (hh : A.handled = none) (hu : A.units + 3 < cLine) (hr : A.depth + 13 < recursionLimit)
    (h : ∀ q x1 d1 t1 t2 t3 t4 x2 d2 u1 u2 u3 u4 x3 d3 w1 w2 w3 w4 h' tk' a b c, (a, b, c) = addF p t t' → 0 ≤ a → a < p → 0 ≤ b → b < p → 0 ≤ c → c < p → Fr g L h' m →
      News g L h' ((q, tup3 (.ref x1) (.ref x2) (.ref x3)) :: (x1, instObj 228 d1) :: (d1, fqDict w p a t1 t2 t3 t4) :: (x2, instObj 228 d2) :: (d2, fqDict w p b u1 u2 u3 u4) :: (x3, instObj 228 d3) :: (d3, fqDict w p c w1 w2 w3 w4) :: news) →
      Q (.ref q) { s with heap := h', toks := tk' }) : wpAny (model prog w) A (call (.ref 42) [a, b]) Q E s :=
  use_pt F N X T (fun _ C hQ => add_ok C ha hb hp hpb hh hu hr hQ) h
local macro_rules | `(tactic| walk_at "call ref") => `(tactic| (k_here; (with_reducible show wpAny _ _ (call (Value.ref 42) [Value.ref _, Value.ref _]) _ _ _); (refine' use_add ?F ?N ?X ?T ?ha ?hb ?hp ?hpb ?hh ?hu ?hr ?_; (case F => k_asm); (case N => k_asm); (case X => k_asm); (case T => k_asm); (case ha => exact PtP.ofNews (by k_asm) (by k_mem) (by k_mem) (by k_mem) (by k_mem) (by k_mem) (by k_mem) (by k_mem) ⟨by first | assumption | omega, by first | assumption | omega⟩ ⟨by first | assumption | omega, by first | assumption | omega⟩ ⟨by first | assumption | omega, by first | assumption | omega⟩); (case hb => exact PtP.ofNews (by k_asm) (by k_mem) (by k_mem) (by k_mem) (by k_mem) (by k_mem) (by k_mem) (by k_mem) ⟨by first | assumption | omega, by first | assumption | omega⟩ ⟨by first | assumption | omega, by first | assumption | omega⟩ ⟨by first | assumption | omega, by first | assumption | omega⟩); (case hp => first | assumption | omega); (case hpb => first | assumption | omega); (case hh => first | exact rfl | assumption); (case hu => ((try simp only [units_deeper, units_in1]); omega)); (case hr => ((try simp only [depth_deeper, depth_in1, depth_under_make]); omega)); k_whole); intro q' x1' d1' t1' t2' t3' t4' x2' d2' u1' u2' u3' u4' x3' d3' w1' w2' w3' w4' h' tk' va' vb' vc' e' b1' b2' b3' b4' b5' b6' F' N'; (try k_sweep); (try dsimp only)))

/-- the multiple, by the program's own doubling and adding -/
def mulF (p : Int) : Nat → T3 → Int → T3
  | 0, _, _ => (1, 1, 0)
  | k + 1, t, n => if n = 0 then (1, 1, 0) else if n = 1 then t else if n % 2 = 0 then mulF p k (dblF p t) (n / 2) else addF p (mulF p k (dblF p t) (n / 2)) t

def MulSpec (prog : Program) (w : World) (mg mb : Str → Option Value) (p : Int) (k : Nat) (n : Int) : Prop :=
  ∀ (A : Around) (s : Shared) (E Q : Value → Shared → Prop) (P : Addr → Prop) (h₀ : Heap) (a : Value) (t : T3) (tn : Tok), Cx w mg mb P h₀ s.heap → PtP w P s.heap a p t → A.handled = none → A.units + 3 * k + 10 < cLine → A.depth + k + 20 < recursionLimit →
    (∀ r h' tk', s.heap.StaysIn h' → PtP w P h' r p (mulF p k t n) → Q r { s with heap := h', toks := tk' }) → wpAny (model prog w) A (call (.ref 49) [a, .int n tn]) Q E s

theorem use_mulp {tn : Tok} (F : Fr g L s.heap m) (N : News g L s.heap news) (X : (hd.heap_39 w.params).In g) (T : TopRead hd.view_39 (looseW hd.view_39 [Str.ofString "FQ"]) mg mb g) (spec : MulSpec prog w mg mb p k n) (ha : PtP w (Own g L) s.heap a p t) (hh : A.handled = none) (hu : A.units + 3 * k + 10 < cLine) (hr : A.depth + k + 20 < recursionLimit)
    (h : ∀ q x1 d1 t1 t2 t3 t4 x2 d2 u1 u2 u3 u4 x3 d3 w1 w2 w3 w4 h' tk' a b c, (a, b, c) = mulF p k t n → 0 ≤ a → a < p → 0 ≤ b → b < p → 0 ≤ c → c < p → Fr g L h' m →
      News g L h' ((q, tup3 (.ref x1) (.ref x2) (.ref x3)) :: (x1, instObj 228 d1) :: (d1, fqDict w p a t1 t2 t3 t4) :: (x2, instObj 228 d2) :: (d2, fqDict w p b u1 u2 u3 u4) :: (x3, instObj 228 d3) :: (d3, fqDict w p c w1 w2 w3 w4) :: news) →
      Q (.ref q) { s with heap := h', toks := tk' }) : wpAny (model prog w) A (call (.ref 49) [a, .int n tn]) Q E s :=
  use_pt F N X T (fun _ C hQ => spec _ _ _ _ _ _ _ _ _ C ha hh hu hr hQ) h
local macro_rules | `(tactic| walk_at "call ref") => `(tactic| (k_here; (with_reducible show wpAny _ _ (call (Value.ref 49) [Value.ref _, Value.int _ _]) _ _ _); (refine' use_mulp ?F ?N ?X ?T ?spec ?ha ?hh ?hu ?hr ?_; (case F => k_asm); (case N => k_asm); (case X => k_asm); (case T => k_asm); (case spec => first | assumption | (rename (2 ≤ _ → MulSpec _ _ _ _ _ _ _) => ih9; exact ih9 (by omega))); (case ha => exact PtP.ofNews (by k_asm) (by k_mem) (by k_mem) (by k_mem) (by k_mem) (by k_mem) (by k_mem) (by k_mem) ⟨by first | assumption | omega, by first | assumption | omega⟩ ⟨by first | assumption | omega, by first | assumption | omega⟩ ⟨by first | assumption | omega, by first | assumption | omega⟩); (case hh => first | exact rfl | assumption); (case hu => ((try simp only [units_deeper, units_in1]); omega)); (case hr => ((try simp only [depth_deeper, depth_in1, depth_under_make]); omega)); k_whole); intro q' x1' d1' t1' t2' t3' t4' x2' d2' u1' u2' u3' u4' x3' d3' w1' w2' w3' w4' h' tk' va' vb' vc' e' b1' b2' b3' b4' b5' b6' F' N'; (try k_sweep); (try dsimp only)))

theorem mulF_zero (h : n = 0) : mulF p (k + 1) t n = (1, 1, 0) := by unfold mulF; rw [if_pos h]
theorem mulF_one (h : n = 1) : mulF p (k + 1) t n = t := by unfold mulF; rw [if_neg (by omega), if_pos h]
theorem mulF_even (h : n ≠ 0) (h' : n ≠ 1) (he : n.fmod 2 = 0) : mulF p (k + 1) t n = mulF p k (dblF p t) (n.fdiv 2) := by
  rw [mulF, if_neg h, if_neg h', if_pos (by rw [← Int.fmod_eq_emod_of_nonneg n (by decide)]; exact he), Int.fdiv_eq_ediv_of_nonneg n (by decide)]
theorem mulF_odd (h : n ≠ 0) (h' : n ≠ 1) (he : n.fmod 2 ≠ 0) : mulF p (k + 1) t n = addF p (mulF p k (dblF p t) (n.fdiv 2)) t := by
  rw [mulF, if_neg h, if_neg h', if_neg (by rw [← Int.fmod_eq_emod_of_nonneg n (by decide)]; exact he), Int.fdiv_eq_ediv_of_nonneg n (by decide)]

theorem mul_step (hp : 1 < p) (hpb : p ≤ 10039) (hn0 : 0 ≤ n) (hn1 : n < 2 ^ 40) (ih : 2 ≤ n → MulSpec prog w mg mb p k (n.fdiv 2)) : MulSpec prog w mg mb p (k + 1) n := by
  intro A s E Q P h₀ a t tn C ha hh hu hr hQ
  obtain ⟨tx, ty, tz⟩ := t
  obtain ⟨q, _, _, _, rfl, Pq, hq, ⟨x1, d1, t1, t2, t3, t4, rfl, a1, a2, P1, P2⟩, ⟨x2, d2, u1, u2, u3, u4, rfl, a3, a4, P3, P4⟩, ⟨x3, d3, w1, w2, w3, w4, rfl, a5, a6, P5, P6⟩, ⟨r1, r2⟩, ⟨r3, r4⟩, ⟨r5, r6⟩⟩ := ha
  dsimp only at *
  refine' enter (P := P) (h₀ := h₀) [(q, tup3 (.ref x1) (.ref x2) (.ref x3)), (x1, instObj 228 d1), (d1, fqDict w p tx t1 t2 t3 t4), (x2, instObj 228 d2), (d2, fqDict w p ty u1 u2 u3 u4), (x3, instObj 228 d3), (d3, fqDict w p tz w1 w2 w3 w4)] C ?ha ?k1 ?k2 ?k3 ?k4 ?k5 ?k6 ?k7 ?k8 ?k9 ?k10
  case ha => exact List.forall_mem_cons.mpr ⟨⟨hq, Pq⟩, List.forall_mem_cons.mpr ⟨⟨a1, P1⟩, List.forall_mem_cons.mpr ⟨⟨a2, P2⟩, List.forall_mem_cons.mpr ⟨⟨a3, P3⟩, List.forall_mem_cons.mpr ⟨⟨a4, P4⟩, List.forall_mem_cons.mpr ⟨⟨a5, P5⟩, List.forall_mem_cons.mpr ⟨⟨a6, P6⟩, List.forall_mem_nil _⟩⟩⟩⟩⟩⟩⟩
  case k1 => k_is
  case k2 => k_is
  case k3 => omega
  case k4 => exact BindsTo.of_eq (binds := [(Str.ofString "pt", .ref q), (Str.ofString "n", .int n tn)]) rfl
  case k5 => exact locs rfl
  case k7 => rfl
  case k8 => rfl
  case k9 => rfl
  case k10 => decide
  intro g' L' h' G F N X' T
  try dsimp only
  k_steps
  all_goals (rename News _ _ _ _ => N'; rename Fr _ _ _ _ => F'; subst_vars; refine hQ _ _ _ (G.stays F' N' (by repeat first | exact fun _ h => h | refine sub_tail ?_)) ?_)
  all_goals first
    | contradiction
    | (rw [mulF_zero (by first | rfl | assumption)]; exact PtP.out G N' (by k_mem) (by k_mem) (by k_mem) (by k_mem) (by k_mem) (by k_mem) (by k_mem) ⟨by first | assumption | omega, by first | assumption | omega⟩ ⟨by first | assumption | omega, by first | assumption | omega⟩ ⟨by first | assumption | omega, by first | assumption | omega⟩)
    | (rw [mulF_one (by first | rfl | assumption)]; exact PtP.out G N' (by k_mem) (by k_mem) (by k_mem) (by k_mem) (by k_mem) (by k_mem) (by k_mem) ⟨by first | assumption | omega, by first | assumption | omega⟩ ⟨by first | assumption | omega, by first | assumption | omega⟩ ⟨by first | assumption | omega, by first | assumption | omega⟩)
    | (rename (_, _, _) = dblF _ _ => hd9; rename (_, _, _) = mulF _ _ _ _ => hm9; rw [mulF_even (by assumption) (by assumption) (by assumption), ← hd9, ← hm9]; exact PtP.out G N' (by k_mem) (by k_mem) (by k_mem) (by k_mem) (by k_mem) (by k_mem) (by k_mem) ⟨by first | assumption | omega, by first | assumption | omega⟩ ⟨by first | assumption | omega, by first | assumption | omega⟩ ⟨by first | assumption | omega, by first | assumption | omega⟩)
    | (rename (_, _, _) = dblF _ _ => hd9; rename (_, _, _) = mulF _ _ _ _ => hm9; rename (_, _, _) = addF _ _ _ => ha9; rw [mulF_odd (by assumption) (by assumption) (by assumption), ← hd9, ← hm9, ← ha9]; exact PtP.out G N' (by k_mem) (by k_mem) (by k_mem) (by k_mem) (by k_mem) (by k_mem) (by k_mem) ⟨by first | assumption | omega, by first | assumption | omega⟩ ⟨by first | assumption | omega, by first | assumption | omega⟩ ⟨by first | assumption | omega, by first | assumption | omega⟩)

theorem mul_all (hp : 1 < p) (hpb : p ≤ 10039) : ∀ (k : Nat) (n : Int), k ≤ 30 → 0 ≤ n → n < 2 ^ (k + 1) → MulSpec prog w mg mb p (k + 1) n := by
  intro k
  induction k with
  | zero => exact fun n _ h0 h1 => mul_step hp hpb h0 (Int.lt_of_lt_of_le h1 (by decide)) fun h2 => absurd h1 (by omega)
  | succ k ih =>
    intro n hk h0 h1
    have e : n.fdiv 2 = n / 2 := Int.fdiv_eq_ediv_of_nonneg n (by decide)
    have hb : (2 : Int) ^ (k + 1 + 1) ≤ 2 ^ 40 := by
      have : (2 : Nat) ^ (k + 1 + 1) ≤ 2 ^ 40 := Nat.pow_le_pow_right (by decide) (by omega)
      exact_mod_cast this
    have hd : (2 : Int) ^ (k + 1 + 1) = 2 * 2 ^ (k + 1) := by rw [Int.pow_succ]; omega
    exact mul_step hp hpb h0 (by omega) fun h2 => ih _ (by omega) (by rw [e]; omega) (by rw [e]; omega)

theorem isinf_ok (C : Cx w mg mb P h₀ s.heap) (ha : PtP w P s.heap a p t) (hp : 1 < p) (hpb : p ≤ 10039) (hu : A.units + 3 < cLine) (hr : A.depth + 13 < recursionLimit)
    (hQ : ∀ h' tk', s.heap.StaysIn h' → Q (.bool (t.2.2 == 0)) { s with heap := h', toks := tk' }) :
    wpAny (model prog w) A (call (.ref 28) [a]) Q E s := by
  obtain ⟨tx, ty, tz⟩ := t
  obtain ⟨q, _, _, _, rfl, Pq, hq, ⟨x1, d1, t1, t2, t3, t4, rfl, a1, a2, P1, P2⟩, ⟨x2, d2, u1, u2, u3, u4, rfl, a3, a4, P3, P4⟩, ⟨x3, d3, w1, w2, w3, w4, rfl, a5, a6, P5, P6⟩, ⟨r1, r2⟩, ⟨r3, r4⟩, ⟨r5, r6⟩⟩ := ha
  dsimp only at *
  refine' enter (P := P) (h₀ := h₀) [(q, tup3 (.ref x1) (.ref x2) (.ref x3)), (x1, instObj 228 d1), (d1, fqDict w p tx t1 t2 t3 t4), (x2, instObj 228 d2), (d2, fqDict w p ty u1 u2 u3 u4), (x3, instObj 228 d3), (d3, fqDict w p tz w1 w2 w3 w4)] C ?ha ?k1 ?k2 ?k3 ?k4 ?k5 ?k6 ?k7 ?k8 ?k9 ?k10
  case ha => exact List.forall_mem_cons.mpr ⟨⟨hq, Pq⟩, List.forall_mem_cons.mpr ⟨⟨a1, P1⟩, List.forall_mem_cons.mpr ⟨⟨a2, P2⟩, List.forall_mem_cons.mpr ⟨⟨a3, P3⟩, List.forall_mem_cons.mpr ⟨⟨a4, P4⟩, List.forall_mem_cons.mpr ⟨⟨a5, P5⟩, List.forall_mem_cons.mpr ⟨⟨a6, P6⟩, List.forall_mem_nil _⟩⟩⟩⟩⟩⟩⟩
  case k1 => k_is
  case k2 => k_is
  case k3 => omega
  case k4 => exact BindsTo.of_eq (binds := [(Str.ofString "pt", .ref q)]) rfl
  case k5 => exact locs rfl
  case k7 => rfl
  case k8 => rfl
  case k9 => rfl
  case k10 => decide
  intro g' L' h' G F N X' T
  try dsimp only
  k_steps
  all_goals (rename News _ _ _ _ => N'; rename Fr _ _ _ _ => F'; subst_vars)
  exact hQ _ _ (G.stays F' N' (by repeat first | exact fun _ h => h | refine sub_tail ?_))

theorem peq_ok (C : Cx w mg mb P h₀ s.heap) (ha : PtP w P s.heap a p t) (hb : PtP w P s.heap b p t') (hp : 1 < p) (hpb : p ≤ 10039) (hh : A.handled = none) (hu : A.units + 3 < cLine) (hr : A.depth + 13 < recursionLimit)
    (hQ : ∀ (b : Bool) h' tk', (b = true ↔ (t.1 * t'.2.2 % p = t'.1 * t.2.2 % p ∧ t.2.1 * t'.2.2 % p = t'.2.1 * t.2.2 % p)) → s.heap.StaysIn h' → Q (.bool b) { s with heap := h', toks := tk' }) :
    wpAny (model prog w) A (call (.ref 56) [a, b]) Q E s := by
  obtain ⟨tx, ty, tz⟩ := t
  obtain ⟨q, _, _, _, rfl, Pq, hq, ⟨x1, d1, t1, t2, t3, t4, rfl, a1, a2, P1, P2⟩, ⟨x2, d2, u1, u2, u3, u4, rfl, a3, a4, P3, P4⟩, ⟨x3, d3, w1, w2, w3, w4, rfl, a5, a6, P5, P6⟩, ⟨r1, r2⟩, ⟨r3, r4⟩, ⟨r5, r6⟩⟩ := ha
  obtain ⟨tx', ty', tz'⟩ := t'
  obtain ⟨q', _, _, _, rfl, Pq', hq', ⟨y1, e1, i1, i2, i3, i4, rfl, c1, c2, P11, P12⟩, ⟨y2, e2, j1, j2, j3, j4, rfl, c3, c4, P13, P14⟩, ⟨y3, e3, k1, k2, k3, k4, rfl, c5, c6, P15, P16⟩, ⟨r11, r12⟩, ⟨r13, r14⟩, ⟨r15, r16⟩⟩ := hb
  dsimp only at *
  refine' enter (P := P) (h₀ := h₀) [(q, tup3 (.ref x1) (.ref x2) (.ref x3)), (x1, instObj 228 d1), (d1, fqDict w p tx t1 t2 t3 t4), (x2, instObj 228 d2), (d2, fqDict w p ty u1 u2 u3 u4), (x3, instObj 228 d3), (d3, fqDict w p tz w1 w2 w3 w4), (q', tup3 (.ref y1) (.ref y2) (.ref y3)), (y1, instObj 228 e1), (e1, fqDict w p tx' i1 i2 i3 i4), (y2, instObj 228 e2), (e2, fqDict w p ty' j1 j2 j3 j4), (y3, instObj 228 e3), (e3, fqDict w p tz' k1 k2 k3 k4)] C ?ha ?k1 ?k2 ?k3 ?k4 ?k5 ?k6 ?k7 ?k8 ?k9 ?k10
  case ha => exact List.forall_mem_cons.mpr ⟨⟨hq, Pq⟩, List.forall_mem_cons.mpr ⟨⟨a1, P1⟩, List.forall_mem_cons.mpr ⟨⟨a2, P2⟩, List.forall_mem_cons.mpr ⟨⟨a3, P3⟩, List.forall_mem_cons.mpr ⟨⟨a4, P4⟩, List.forall_mem_cons.mpr ⟨⟨a5, P5⟩, List.forall_mem_cons.mpr ⟨⟨a6, P6⟩, List.forall_mem_cons.mpr ⟨⟨hq', Pq'⟩, List.forall_mem_cons.mpr ⟨⟨c1, P11⟩, List.forall_mem_cons.mpr ⟨⟨c2, P12⟩, List.forall_mem_cons.mpr ⟨⟨c3, P13⟩, List.forall_mem_cons.mpr ⟨⟨c4, P14⟩, List.forall_mem_cons.mpr ⟨⟨c5, P15⟩, List.forall_mem_cons.mpr ⟨⟨c6, P16⟩, List.forall_mem_nil _⟩⟩⟩⟩⟩⟩⟩⟩⟩⟩⟩⟩⟩⟩
  case k1 => k_is
  case k2 => k_is
  case k3 => omega
  case k4 => exact BindsTo.of_eq (binds := [(Str.ofString "p1", .ref q), (Str.ofString "p2", .ref q')]) rfl
  case k5 => exact locs rfl
  case k7 => rfl
  case k8 => rfl
  case k9 => rfl
  case k10 => decide
  intro g' L' h' G F N X' T
  try dsimp only
  k_steps
  all_goals (rename News _ _ _ _ => N'; rename Fr _ _ _ _ => F'; subst_vars; refine hQ _ _ _ ?_ (G.stays F' N' (by repeat first | exact fun _ h => h | refine sub_tail ?_)); simp only [beq_iff_eq])
  all_goals first
    | contradiction
    | exact ⟨fun q => ⟨by assumption, q⟩, fun q => q.2⟩
    | exact ⟨fun q => absurd q (by assumption), fun q => absurd q.1 (by assumption)⟩

theorem pneg_ok (C : Cx w mg mb P h₀ s.heap) (ha : PtP w P s.heap a p t) (hp : 1 < p) (hpb : p ≤ 10039) (hh : A.handled = none) (hr : A.depth + 13 < recursionLimit)
    (hQ : ∀ r h' tk', s.heap.StaysIn h' → PtP w P h' r p (t.1, -t.2.1 % p, t.2.2) → Q r { s with heap := h', toks := tk' }) :
    wpAny (model prog w) A (call (.ref 63) [a]) Q E s := by
  obtain ⟨tx, ty, tz⟩ := t
  obtain ⟨q, _, _, _, rfl, Pq, hq, ⟨x1, d1, t1, t2, t3, t4, rfl, a1, a2, P1, P2⟩, ⟨x2, d2, u1, u2, u3, u4, rfl, a3, a4, P3, P4⟩, ⟨x3, d3, w1, w2, w3, w4, rfl, a5, a6, P5, P6⟩, ⟨r1, r2⟩, ⟨r3, r4⟩, ⟨r5, r6⟩⟩ := ha
  dsimp only at *
  refine' enter (P := P) (h₀ := h₀) [(q, tup3 (.ref x1) (.ref x2) (.ref x3)), (x1, instObj 228 d1), (d1, fqDict w p tx t1 t2 t3 t4), (x2, instObj 228 d2), (d2, fqDict w p ty u1 u2 u3 u4), (x3, instObj 228 d3), (d3, fqDict w p tz w1 w2 w3 w4)] C ?ha ?k1 ?k2 ?k3 ?k4 ?k5 ?k6 ?k7 ?k8 ?k9 ?k10
  case ha => exact List.forall_mem_cons.mpr ⟨⟨hq, Pq⟩, List.forall_mem_cons.mpr ⟨⟨a1, P1⟩, List.forall_mem_cons.mpr ⟨⟨a2, P2⟩, List.forall_mem_cons.mpr ⟨⟨a3, P3⟩, List.forall_mem_cons.mpr ⟨⟨a4, P4⟩, List.forall_mem_cons.mpr ⟨⟨a5, P5⟩, List.forall_mem_cons.mpr ⟨⟨a6, P6⟩, List.forall_mem_nil _⟩⟩⟩⟩⟩⟩⟩
  case k1 => k_is
  case k2 => k_is
  case k3 => omega
  case k4 => exact BindsTo.of_eq (binds := [(Str.ofString "pt", .ref q)]) rfl
  case k5 => exact locs rfl
  case k7 => rfl
  case k8 => rfl
  case k9 => rfl
  case k10 => decide
  intro g' L' h' G F N X' T
  try dsimp only
  k_steps
  all_goals (rename News _ _ _ _ => N'; rename Fr _ _ _ _ => F'; subst_vars)
  exact hQ _ _ _ (G.stays F' N' (by repeat first | exact fun _ h => h | refine sub_tail ?_)) (PtP.out G N' (by k_mem) (by k_mem) (by k_mem) (by k_mem) (by k_mem) (by k_mem) (by k_mem) ⟨by assumption, by assumption⟩ ⟨emod_pos_le hp, emod_pos_lt hp⟩ ⟨by assumption, by assumption⟩)
end
end Mine
end

section
open PySem PySem.W PyProof.Rows PySem.Calls
set_option maxRecDepth 100000
set_option maxHeartbeats 8000000
namespace Mine
section
variable {prog : Program} {w : World} {A : Around} {s : Shared} {E : Value → Shared → Prop} {Q : Value → Shared → Prop}

theorem gives_pow3 (a : Int) (t : Tok) (b : Int) (u : Tok) (c : Int) (v : Tok) (hc0 : ¬(c == 0) = true) (hc1 : ¬(c.natAbs == 1) = true) (hb : ¬ b < 0) (hc2 : ¬ c < 0) :
    Gives (Builtin.«int.__pow__» ⟨[.int a t, .int b u, .int c v], []⟩) (.int (Builtin.powMod (a % (c.natAbs : Int)).toNat b.natAbs c.natAbs : Nat)) :=
  .of_wp fun M A E s Q h => by
    obtain ⟨hp, g, d, tk, os⟩ := s
    wp_walk
    simp only [hc2, decide_false, Bool.false_and, Bool.false_eq_true, if_false]
    exact ⟨_, rfl, h⟩

theorem entry_pow : entryFor table "pow" = some Builtin.«pow» := entryFor_of_fast (by kernel_rfl)
theorem kind_pow : builtinKind "pow" = none := by decide +kernel
theorem plain_pow : plainId "pow" = true := by decide +kernel
theorem args_pow3 (a b c : Value) : argsOk "pow" ⟨[a, b, c], []⟩ := by unfold argsOk; kernel_rfl
theorem args_int_pow3 (a b c : Value) : argsOk "int.__pow__" ⟨[a, b, c], []⟩ := by unfold argsOk; kernel_rfl
theorem slot_pow : Slot "int" (Str.ofString "__pow__") "int.__pow__" := F.slot_int_pow

theorem pow3 {a b c : Int} {t u v : Tok} (hb : 0 ≤ b) (hc : 1 < c)
    (h : Q (.int (Builtin.powMod (a % c).toNat b.toNat c.toNat : Nat) s.toks) { s with toks := s.toks + 1 }) :
    wpAny (model prog w) A (call (.builtin "pow") [.int a t, .int b u, .int c v]) Q E s := by
  have e1 : c.natAbs = c.toNat := by omega
  have e2 : b.natAbs = b.toNat := by omega
  have e3 : ((c.toNat : Nat) : Int) = c := by omega
  refine Calls.call_function_entry kind_pow plain_pow entry_pow (args_pow3 _ _ _) ?_
  unfold Builtin.«pow»
  refine wpAny_bind (wpAny_of_eq (show Builtin.Builtins.bindParams "pow" ["base", "exp", "mod"] 2 ⟨[.int a t, .int b u, .int c v], []⟩ = pure [some (.int a t), some (.int b u), some (.int c v)] from rfl) ?_)
  dsimp only [Option.getD_some]
  refine wpAny_bind (wpAny_rule ?_)
  refine wpAny_bind (wpAny_typeOf (typeIs_int s a t) ?_)
  dsimp only
  refine wpAny_bind (wpAny_of_eq (show typeLookup (.type "int") (Str.ofString "__pow__") = pure (some (.builtin "int.__pow__")) from slot_pow.lookup) ?_)
  dsimp only
  refine wpAny_bind ?_
  refine wpAny_callSpecial?_slot (T := "int") (name := Str.ofString "__pow__") (id := "int.__pow__") (args := [.int b u, .int c v]) (kw := []) ?_ slot_pow ?_
  · exact typeIs_int s a t
  refine call_gives (T := "int") (name := Str.ofString "__pow__") (id := "int.__pow__") (B := Builtin.«int.__pow__») slot_pow ?_ F.entry_int_pow (args_int_pow3 _ _ _) (gives_pow3 a t b u c v (by simp; omega) (by simp; omega) (by omega) (by omega)) ?_
  · exact typeIs_int s a t
  show wpAny _ _ (if (Value.int _ _ != Value.notImplemented) = true then _ else _) _ _ _
  rw [if_pos (by rfl)]
  rw [e1, e2, e3]
  exact wpAny_pure ⟨_, rfl, h⟩
end
end Mine
end

section
open PySem PySem.W PyProof.Rows PySem.Calls
set_option maxRecDepth 100000
set_option maxHeartbeats 8000000
namespace Mine
theorem fill6 (w : World) (h : Heap) : PySem.Challenge.rw_bb0059_01.Holds → (hd.heap_39 w.params).In h → True := by
  k_fill
  intros; trivial

/-- the law's own two loops, with fuel -/
def loop1 (p : Int) : Nat → Int → Option Int
  | 0, _ => none
  | k + 1, f => if 0 ≤ f ∧ f ≤ 1000 then (if f * f < 4 * p then loop1 p k (f * 2) else some f) else none
def loop2 (p : Int) : Nat → Int → Int → Option (Int × Int)
  | 0, _, _ => none
  | k + 1, f, n => if (0 ≤ f ∧ f ≤ 1000) ∧ (0 ≤ n ∧ n ≤ 1000) then
      (if f * f + 27 * n * n ≠ 4 * p then (if 4 * p < f * f + 27 * n * n then loop2 p k (f - 1) n else loop2 p k f (n + 1)) else some (f, n)) else none

section
variable {prog : Program} {w : World} {A : Around} {s : Shared} {E : Value → Shared → Prop} {Q : Value → Shared → Prop} {mg mb : Str → Option Value} {P : Addr → Prop} {h₀ : Heap} {p f0 f1 n1 : Int}

local macro_rules | `(tactic| walk_at "unpackItems ref") => `(tactic| (k_here; k_dflt (refine' unpackItemsN_ ?k1 ?k2 ?k3 ?k4 ?k5 ?_; (case k1 => k_asm); (case k2 => k_asm); (case k3 => exact News.isTup (by k_asm) (by k_mem)); (case k4 => first | exact rfl | assumption); (case k5 => exact rfl); k_whole); intro h' F' N'; (try k_sweep)))

local macro_rules | `(tactic| walk_at "assign Tuple") => `(tactic| (k_here; (with_reducible show wpAny _ _ (assign (Expr.Tuple _ _ _) _ (Value.ref _)) _ _ _); k_dflt (refine' unpackN_ ?k1 ?k2 ?k3 ?k4 ?k5 ?k6 ?_; (case k1 => k_asm); (case k2 => k_asm); (case k3 => exact News.isTup (by k_asm) (by k_mem)); (case k4 => first | exact rfl | assumption); (case k5 => exact rfl); (case k6 => exact rfl); k_whole); intro h' F' N'; (try k_sweep)))

theorem three_ok {tp : Tok} (C : Cx w mg mb P h₀ s.heap) (hp : 1 < p) (hpb : p ≤ 10039) (hh : A.handled = none) (hr : A.depth + 5 < recursionLimit)
    (l1 : loop1 p 20 1 = some f0) (l2 : loop2 p 400 f0 1 = some (f1, n1))
    (hQ : ∀ a t1 t2 h' tk', s.heap.StaysIn h' → P a → h'.get? a = some { cls := .type "tuple", data := .seq #[.int (((if f1 % 3 = 2 then -f1 else f1) + 3 * n1) / 2) t1, .int (3 * n1) t2] } → Q (.ref a) { s with heap := h', toks := tk' }) :
    wpAny (model prog w) A (call (.ref 240) [.int p tp]) Q E s := by
  refine' enter (P := P) (h₀ := h₀) [] C ?ha ?k1 ?k2 ?k3 ?k4 ?k5 ?k6 ?k7 ?k8 ?k9 ?k10
  case ha => exact List.forall_mem_nil _
  case k1 => k_is
  case k2 => k_is
  case k3 => omega
  case k4 => exact BindsTo.of_eq (binds := [(Str.ofString "p", .int p tp)]) rfl
  case k5 => exact locs rfl
  case k7 => rfl
  case k8 => rfl
  case k9 => rfl
  case k10 => decide
  intro g' L' h' G F N X' T
  try dsimp only
  repeat' ((fail_if_success (with_reducible show wpAny _ _ (exec (Stmt.While _ _ _ _) _) _ _ _)); first | (k_unfold; (try dsimp only)) | walk1 | (dsimp only; walk1) | (leave1; walk_say "STEP leave1"; try dsimp only))
  rename Fr _ _ _ _ => F1
  refine ksw_while (σ := Int × Nat × Tok) (fun _ => []) (fun c => [(Str.ofString "far", .int c.1 c.2.2)]) (fun _ => True) [Str.ofString "far"] (fun c => loop1 p c.2.1 c.1 = some f0) (fun c => c.2.1) (1, 20, _) F1 (fun _ h => nomatch h) trivial (List.forall_mem_cons.mpr ⟨rfl, List.forall_mem_nil _⟩) l1 ?_
  clear F1
  rintro ⟨f, k, t⟩ u h1 tk1 - hP F2 N2
  dsimp only at hP F2 N2 ⊢
  cases k with
  | zero => cases hP
  | succ k =>
  rw [loop1] at hP
  split at hP
  case isFalse => cases hP
  rename_i hb
  repeat' ((fail_if_success (with_reducible show wpAny _ _ (exec (Stmt.While _ _ _ _) _) _ _ _)); first | (k_unfold; (try dsimp only)) | walk1 | (dsimp only; walk1) | (leave1; walk_say "STEP leave1"; try dsimp only))
  · rename News _ _ _ _ => N3
    rename Fr _ _ _ _ => F3
    rw [if_pos (by assumption)] at hP
    exact ksw_end (f * 2, k, _) F3 N3 (fun _ h => nomatch h) trivial (List.forall_mem_cons.mpr ⟨rfl, List.forall_mem_nil _⟩) (by intro z h2 _; simp only [List.forall_mem_cons, List.not_mem_nil, false_implies, implies_true, and_true, ne_eq] at h2; simp [kstB, h2]) hP (Nat.lt_succ_self _)
  rw [if_neg (by assumption)] at hP
  cases hP
  rename Fr _ _ _ _ => F1
  refine ksw_while (σ := Int × Int × Nat × Tok × Tok) (fun _ => []) (fun c => [(Str.ofString "far", .int c.1 c.2.2.2.1), (Str.ofString "near", .int c.2.1 c.2.2.2.2)]) (fun _ => True) [Str.ofString "far", Str.ofString "near"] (fun c => loop2 p c.2.2.1 c.1 c.2.1 = some (f1, n1)) (fun c => c.2.2.1)
    (f0, 1, 400, _, _) F1 (fun _ h => nomatch h) trivial (List.forall_mem_cons.mpr ⟨rfl, List.forall_mem_cons.mpr ⟨rfl, List.forall_mem_nil _⟩⟩) l2 ?_
  clear F1
  rintro ⟨f, n, k, t, t'⟩ u h1 tk1 - hP F2 N2
  dsimp only at hP F2 N2 ⊢
  cases k with
  | zero => cases hP
  | succ k =>
  rw [loop2] at hP
  split at hP
  case isFalse => cases hP
  rename_i hb
  repeat' ((fail_if_success (with_reducible show wpAny _ _ (exec (Stmt.While _ _ _ _) _) _ _ _)); first | (k_unfold; (try dsimp only)) | walk1 | (dsimp only; walk1) | (leave1; walk_say "STEP leave1"; try dsimp only))
  all_goals rename News _ _ _ _ => N3
  all_goals rename Fr _ _ _ _ => F3
  · rw [if_pos (by assumption), if_pos (by assumption)] at hP
    exact ksw_end (f - 1, n, k, _, _) F3 N3 (fun _ h => nomatch h) trivial (List.forall_mem_cons.mpr ⟨rfl, List.forall_mem_cons.mpr ⟨rfl, List.forall_mem_nil _⟩⟩) (by intro z h2 _; simp only [List.forall_mem_cons, List.not_mem_nil, false_implies, implies_true, and_true, ne_eq] at h2; simp [kstB, h2]) hP (Nat.lt_succ_self _)
  · rename ¬ (4 * p < _) => hlt
    rw [if_pos (by assumption), if_neg hlt] at hP
    exact ksw_end (f, n + 1, k, _, _) F3 N3 (fun _ h => nomatch h) trivial (List.forall_mem_cons.mpr ⟨rfl, List.forall_mem_cons.mpr ⟨rfl, List.forall_mem_nil _⟩⟩) (by intro z h2 _; simp only [List.forall_mem_cons, List.not_mem_nil, false_implies, implies_true, and_true, ne_eq] at h2; simp [kstB, h2]) hP (Nat.lt_succ_self _)
  all_goals rename _ = 4 * p => he
  all_goals (rw [if_neg (fun q => q he)] at hP; cases hP)
  · rename Int.fmod _ 3 = 2 => hm
    have e1 : ((if f1 % 3 = 2 then -f1 else f1) + 3 * n1) / 2 = (-f1 + 3 * n1).fdiv 2 := by
      rw [if_pos (by rw [← Int.fmod_eq_emod_of_nonneg f1 (by decide)]; exact hm), Int.fdiv_eq_ediv_of_nonneg _ (by decide)]
    exact hQ _ _ _ _ _ (G.stays F3 N3 fun _ h => nomatch h) (G.pOf N3 (.head _)) (by rw [e1]; exact (N3 _ (.head _)).1)
  · rename Int.fmod _ 3 ≠ 2 => hm
    have e1 : ((if f1 % 3 = 2 then -f1 else f1) + 3 * n1) / 2 = (f1 + 3 * n1).fdiv 2 := by
      rw [if_neg (by rw [← Int.fmod_eq_emod_of_nonneg f1 (by decide)]; exact hm), Int.fdiv_eq_ediv_of_nonneg _ (by decide)]
    exact hQ _ _ _ _ _ (G.stays F3 N3 fun _ h => nomatch h) (G.pOf N3 (.head _)) (by rw [e1]; exact (N3 _ (.head _)).1)
end
end Mine
end

section
open PySem PySem.W PyProof.Rows PySem.Calls
set_option maxRecDepth 100000
set_option maxHeartbeats 8000000
namespace Mine

theorem powMod_fold (b e m : Nat) : ∀ k, (List.range k).reverse.foldl (fun p i => if e.testBit i then p * p % m * b % m else p * p % m) (b ^ (e >>> k) % m) = b ^ e % m := by
  intro k
  induction k with
  | zero => simp
  | succ k ih =>
    rw [List.range_succ, List.reverse_append, List.reverse_cons, List.reverse_nil, List.nil_append, List.foldl_append, List.foldl_cons, List.foldl_nil]
    have e1 : e >>> k = 2 * (e >>> (k + 1)) + (e.testBit k).toNat := by
      rw [Nat.shiftRight_succ, Nat.toNat_testBit, Nat.shiftRight_eq_div_pow]
      omega
    have e2 : (if e.testBit k then b ^ (e >>> (k + 1)) % m * (b ^ (e >>> (k + 1)) % m) % m * b % m else b ^ (e >>> (k + 1)) % m * (b ^ (e >>> (k + 1)) % m) % m) = b ^ (e >>> k) % m := by
      rw [e1, Nat.pow_add, Nat.two_mul, Nat.pow_add]
      cases e.testBit k with
      | true => simp [Nat.mul_mod]
      | false => simp [Nat.mul_mod]
    rw [e2]
    exact ih
theorem powMod_eq (b e m : Nat) : Builtin.powMod b e m = b ^ e % m := by
  unfold Builtin.powMod
  have h := powMod_fold b e m (Builtin.Int.intBits (e : Int))
  have e0 : e >>> Builtin.Int.intBits (e : Int) = 0 := by
    rw [Nat.shiftRight_eq_div_pow]
    refine Nat.div_eq_of_lt ?_
    unfold Builtin.Int.intBits
    by_cases h0 : e = 0
    · subst h0; decide
    · rw [if_neg (by simp; exact h0)]
      exact Nat.lt_log2_self
  rw [e0, Nat.pow_zero] at h
  exact h

/-- Python's pow(a, b, c) for an exponent of 0 or more -/
def powI (a b c : Int) : Int := ((a % c).toNat ^ b.toNat % c.toNat : Nat)
theorem powI_lo (a b c : Int) : 0 ≤ powI a b c := Int.natCast_nonneg _
theorem powI_hi (a b : Int) {c : Int} (h : 1 < c) : powI a b c < c := by
  unfold powI
  have := Nat.mod_lt ((a % c).toNat ^ b.toNat) (show c.toNat > 0 by omega)
  omega
section
variable {prog : Program} {w : World} {A : Around} {s : Shared} {E : Value → Shared → Prop} {Q : Value → Shared → Prop}
theorem use_pow {a b c : Int} {t u v : Tok} (hb : 0 ≤ b) (hc : 1 < c)
    (h : ∀ r, r = powI a b c → 0 ≤ r → r < c → Q (.int r s.toks) { s with toks := s.toks + 1 }) :
    wpAny (model prog w) A (call (.builtin "pow") [.int a t, .int b u, .int c v]) Q E s := by
  refine pow3 hb hc ?_
  rw [powMod_eq]
  exact h _ rfl (powI_lo a b c) (powI_hi a b hc)
end
end Mine
end

section
open PySem PySem.W PyProof.Rows PySem.Calls
set_option maxRecDepth 100000
set_option maxHeartbeats 8000000
namespace Mine
theorem fill7 (w : World) (h : Heap) : PySem.Challenge.rw_bb0059_01.Holds → (hd.heap_39 w.params).In h → True := by
  k_fill
  intros; trivial

def loop3 (p sixth mark : Int) : Nat → Int → Int → Int → Option (Int × Int)
  | 0, _, _, _ => none
  | k + 1, t, u, v => if (0 ≤ t ∧ t < p) ∧ (-1000000 ≤ u ∧ u ≤ 1000000) ∧ (-1000000 ≤ v ∧ v ≤ 1000000) then
      (if t ≠ mark then loop3 p sixth mark k (t * sixth % p) (u - v) u else some (u, v)) else none

/-- Gauss's count, as the law reckons it -/
def CountIs (p b N0 : Int) : Prop :=
  ∃ f0 f1 n1 u0 v0 u1 v1, loop1 p 20 1 = some f0 ∧ loop2 p 400 f0 1 = some (f1, n1) ∧ u0 = ((if f1 % 3 = 2 then -f1 else f1) + 3 * n1) / 2 ∧ v0 = 3 * n1 ∧
    (-1000000 ≤ u0 ∧ u0 ≤ 1000000) ∧ (0 ≤ v0 ∧ v0 ≤ 1000000) ∧ loop3 p (u0 * powI v0 (p - 2) p % p) (powI (4 * b) ((p - 1) / 6) p) 7 1 u0 v0 = some (u1, v1) ∧ N0 = p + 1 + 2 * u1 - v1

section
variable {prog : Program} {w : World} {A : Around} {s : Shared} {E : Value → Shared → Prop} {Q : Value → Shared → Prop} {mg mb : Str → Option Value} {P : Addr → Prop} {h₀ g : Heap} {L : Addr} {m : Str → Option Value} {news : List (Addr × Obj)} {p f0 f1 n1 : Int} {b N0 : Int}

theorem use_three {tp : Tok} (F : Fr g L s.heap m) (N : News g L s.heap news) (X : (hd.heap_39 w.params).In g) (T : TopRead hd.view_39 (looseW hd.view_39 [Str.ofString "FQ"]) mg mb g)
    (hp : 1 < p) (hpb : p ≤ 10039) (hh : A.handled = none) (hr : A.depth + 5 < recursionLimit)
    (l1 : loop1 p 20 1 = some f0) (l2 : loop2 p 400 f0 1 = some (f1, n1))
    (h : ∀ a t1 t2 h' tk' u v, u = ((if f1 % 3 = 2 then -f1 else f1) + 3 * n1) / 2 → v = 3 * n1 → Fr g L h' m → News g L h' ((a, { cls := .type "tuple", data := .seq #[.int u t1, .int v t2] }) :: news) → Q (.ref a) { s with heap := h', toks := tk' }) :
    wpAny (model prog w) A (call (.ref 240) [.int p tp]) Q E s :=
  three_ok (Cx.ofFrame F X T) hp hpb hh hr l1 l2 fun a t1 t2 h' tk' st Pa ha => h a t1 t2 h' tk' _ _ rfl rfl (Fr.stay F st) (List.forall_mem_cons.mpr ⟨⟨ha, Pa.2, Pa.1⟩, News.stay N st⟩)

local macro_rules | `(tactic| walk_at "unpackItems ref") => `(tactic| (k_here; k_dflt (refine' unpackItemsN_ ?k1 ?k2 ?k3 ?k4 ?k5 ?_; (case k1 => k_asm); (case k2 => k_asm); (case k3 => exact News.isTup (by k_asm) (by k_mem)); (case k4 => first | exact rfl | assumption); (case k5 => exact rfl); k_whole); intro h' F' N'; (try k_sweep)))
local macro_rules | `(tactic| walk_at "assign Tuple") => `(tactic| (k_here; (with_reducible show wpAny _ _ (assign (Expr.Tuple _ _ _) _ (Value.ref _)) _ _ _); k_dflt (refine' unpackN_ ?k1 ?k2 ?k3 ?k4 ?k5 ?k6 ?_; (case k1 => k_asm); (case k2 => k_asm); (case k3 => exact News.isTup (by k_asm) (by k_mem)); (case k4 => first | exact rfl | assumption); (case k5 => exact rfl); (case k6 => exact rfl); k_whole); intro h' F' N'; (try k_sweep)))
local macro_rules | `(tactic| walk_at "call ref") => `(tactic| (k_here; (with_reducible show wpAny _ _ (call (Value.ref 240) [Value.int _ _]) _ _ _); (refine' use_three ?F ?N ?X ?T ?hp ?hpb ?hh ?hr ?l1 ?l2 ?_; (case F => k_asm); (case N => k_asm); (case X => k_asm); (case T => k_asm); (case hp => assumption); (case hpb => assumption); (case hh => first | exact rfl | assumption); (case hr => ((try simp only [depth_deeper, depth_in1]); omega)); (case l1 => assumption); (case l2 => assumption); k_whole); intro a' t1' t2' h' tk' u' v' eu' ev' F' N'; (try k_sweep); (try dsimp only)))
local macro_rules | `(tactic| walk_at "call builtin:pow") => `(tactic| (k_here; (refine' use_pow ?hb ?hc ?_; (case hb => first | omega | (rw [Int.fdiv_eq_ediv_of_nonneg _ (by decide)]; omega)); (case hc => omega); k_whole); intro r' er' rl' rh'; (try dsimp only)))

theorem count_ok {tp tb : Tok} (C : Cx w mg mb P h₀ s.heap) (hp : 1 < p) (hpb : p ≤ 10039) (hb0 : 0 ≤ b) (hb1 : b ≤ 10039) (hh : A.handled = none) (hr : A.depth + 8 < recursionLimit)
    (hc : CountIs p b N0)
    (hQ : ∀ t1 h' tk', s.heap.StaysIn h' → Q (.int N0 t1) { s with heap := h', toks := tk' }) :
    wpAny (model prog w) A (call (.ref 247) [.int p tp, .int b tb]) Q E s := by
  obtain ⟨f0, f1, n1, u0, v0, u1, v1, l1, l2, eu0, ev0, bu0, bv0, l3, rfl⟩ := hc
  refine' enter (P := P) (h₀ := h₀) [] C ?ha ?k1 ?k2 ?k3 ?k4 ?k5 ?k6 ?k7 ?k8 ?k9 ?k10
  case ha => exact List.forall_mem_nil _
  case k1 => k_is
  case k2 => k_is
  case k3 => omega
  case k4 => exact BindsTo.of_eq (binds := [(Str.ofString "p", .int p tp), (Str.ofString "b", .int b tb)]) rfl
  case k5 => exact locs rfl
  case k7 => rfl
  case k8 => rfl
  case k9 => rfl
  case k10 => decide
  intro g' L' h' G F N X' T
  try dsimp only
  repeat' ((fail_if_success (with_reducible show wpAny _ _ (exec (Stmt.While _ _ _ _) _) _ _ _)); first | (k_unfold; (try dsimp only)) | walk1 | (dsimp only; walk1) | (leave1; walk_say "STEP leave1"; try dsimp only))
  rename _ = powI _ (p - 2) p => er1
  rename _ = powI (4 * b) _ p => er2
  rename _ = ((if f1 % 3 = 2 then -f1 else f1) + 3 * n1) / 2 => eu1
  rename _ = 3 * n1 => ev1
  rename Fr _ _ _ _ => F1
  rw [← eu0] at eu1
  rw [← ev0] at ev1
  subst eu1 ev1
  rw [Int.fdiv_eq_ediv_of_nonneg _ (by decide)] at er2
  rw [← er1, ← er2, ← Int.fmod_eq_emod_of_nonneg _ (show 0 ≤ p by omega)] at l3
  refine ksw_while (σ := Int × Int × Int × Nat × Tok × Tok × Tok) (fun _ => []) (fun c => [(Str.ofString "turn", .int c.1 c.2.2.2.2.1), (Str.ofString "u", .int c.2.1 c.2.2.2.2.2.1), (Str.ofString "v", .int c.2.2.1 c.2.2.2.2.2.2)]) (fun _ => True)
    [Str.ofString "turn", Str.ofString "u", Str.ofString "v"] (fun c => loop3 p _ _ c.2.2.2.1 c.1 c.2.1 c.2.2.1 = some (u1, v1)) (fun c => c.2.2.2.1)
    (1, _, _, 7, _, _, _) F1 (fun _ h => nomatch h) trivial (List.forall_mem_cons.mpr ⟨rfl, List.forall_mem_cons.mpr ⟨rfl, List.forall_mem_cons.mpr ⟨rfl, List.forall_mem_nil _⟩⟩⟩) l3 ?_
  clear F1 l3 bu0 bv0 eu0 ev0
  rintro ⟨t, u, v, k, t1, t2, t3⟩ uu h1 tk1 - hP F2 N2
  dsimp only at hP F2 N2 ⊢
  cases k with
  | zero => cases hP
  | succ k =>
  rw [loop3] at hP
  split at hP
  case isFalse => cases hP
  rename_i hb
  repeat' ((fail_if_success (with_reducible show wpAny _ _ (exec (Stmt.While _ _ _ _) _) _ _ _)); first | (k_unfold; (try dsimp only)) | walk1 | (dsimp only; walk1) | (leave1; walk_say "STEP leave1"; try dsimp only))
  all_goals rename News _ _ _ _ => N3
  all_goals rename Fr _ _ _ _ => F3
  · rw [if_pos (by assumption), ← Int.fmod_eq_emod_of_nonneg (t * _) (show 0 ≤ p by omega)] at hP
    exact ksw_end (_, u - v, u, k, _, _, _) F3 N3 (fun _ h => nomatch h) trivial (List.forall_mem_cons.mpr ⟨rfl, List.forall_mem_cons.mpr ⟨rfl, List.forall_mem_cons.mpr ⟨rfl, List.forall_mem_nil _⟩⟩⟩) (by intro z h2 _; simp only [List.forall_mem_cons, List.not_mem_nil, false_implies, implies_true, and_true, ne_eq] at h2; simp [kstB, h2]) hP (Nat.lt_succ_self _)
  · rename t = _ => he
    rw [if_neg (fun q => q he)] at hP
    cases hP
    exact hQ _ _ _ (G.stays F3 N3 fun _ h => nomatch h)
end
end Mine
end

section
open PySem PySem.W PyProof.Rows PySem.Calls
set_option maxRecDepth 100000
set_option maxHeartbeats 8000000
namespace Mine
section
variable {prog : Program} {w : World} {A : Around} {E : Value → Shared → Prop} {s : Shared} {env : Env} {h₀ : Heap} {x : Str} {body : List Stmt} {Q : Flow → Shared → Prop}

def TwoEnd (h₀ : Heap) (L : Addr) (s : Shared) (J : (Str → Option Value) → Prop) (led : List (Addr × Obj)) (f : Flow) (s₂ : Shared) : Prop :=
  f = .next ∧ ∃ h' tk' m', s₂ = { s with heap := h', toks := tk' } ∧ Fr h₀ L h' m' ∧ News h₀ L h' led ∧ J m'

theorem iter_two {D : Addr} {items : Array Value} {keep news : List (Addr × Obj)} {m₀ : Str → Option Value} (hh : A.handled = none) (F : Fr h₀ env.locals s.heap m₀) (N : News h₀ env.locals s.heap news)
    (hD : (D, ({ cls := .type "tuple", data := .seq items } : Obj)) ∈ news) (hkeep : ∀ p ∈ keep, p ∈ news) (J : (Str → Option Value) → Prop) (hJ : J m₀)
    (turn : ∀ (i : Nat) (v : Value) m₁ h₁ tk₁ I oI oD, items[i]? = some v → J m₁ → Fr h₀ env.locals h₁ (fun y => if y = x then some v else m₁ y) → News h₀ env.locals h₁ ((I, oI) :: (D, oD) :: keep) →
      wpAny (model prog w) A (execs body env) (TwoEnd h₀ env.locals s J ((I, oI) :: (D, oD) :: keep)) E { s with heap := h₁, toks := tk₁ })
    (fin : ∀ h' tk' m', Fr h₀ env.locals h' m' → News h₀ env.locals h' keep → J m' → Q .next { s with heap := h', toks := tk' }) :
    wpAny (model prog w) A (pyIter (.ref D)) (fun it s₂ => LoopAtV prog w A h₀ env x body Q E it s₂) E s := by
  have ND := N _ hD
  have hl : s.heap.IsTuple D items := ⟨_, ND.1, rfl, _, rfl⟩
  have hlt : D < s.heap.objs.size := Heap.lt_size ND.1
  have hne : D ≠ s.heap.objs.size := Nat.ne_of_lt hlt
  have hI : h₀.get? s.heap.objs.size = none := by
    cases q : h₀.get? s.heap.objs.size with
    | none => rfl
    | some o => exact absurd (Heap.lt_size (F.keep _ _ q)) (Nat.lt_irrefl _)
  have hIL : s.heap.objs.size ≠ env.locals := fun q => absurd F.ns.lt (q ▸ Nat.lt_irrefl _)
  refine wpAny_pyIter_tuple hl ?_
  refine ⟨s.heap.objs.size, _, _, _, _, _, m₀, keep, fun _ m nx => J m ∧ nx = keep, rfl, Walks.tuple hh s.heap.objs.size D hne items, ?_, ?_, ?_, ⟨⟨_, Heap.get?_push_size _ rfl, rfl, rfl⟩, hl.at fun o e => Heap.get?_push_of_some _ e⟩, F.push _,
    fun p hp => ⟨Heap.get?_push_of_some _ (N p (hkeep p hp)).1, (N p (hkeep p hp)).2⟩, ⟨hJ, rfl⟩, ?_, ?_⟩
  · intro q
    rcases List.mem_cons.mp q with e | q
    · exact hIL e.symm
    · exact ND.2.1 (List.mem_singleton.mp q).symm
  · intro b hb; rw [List.mem_singleton.mp hb]; exact hI
  · intro p hp q
    exact absurd (Heap.lt_size (N p (hkeep p hp)).1) ((List.mem_singleton.mp q) ▸ Nat.lt_irrefl _)
  · rintro i v m₁ news₁ s₁ own ⟨hh', tk', rfl⟩ hin hv ⟨hJ₁, rfl⟩ hoff hown hget hall hst F₁ N₁
    obtain ⟨⟨oI, hoI, rI⟩, ⟨oD, hoD, rD⟩⟩ := hst
    have mI := hall s.heap.objs.size (.head _) hI oI hoI
    have mD := hall D (.tail _ (.head _)) ND.2.2 oD hoD
    have NI := N₁ _ (List.mem_append_left _ mI)
    have NDD := N₁ _ (List.mem_append_left _ mD)
    refine wpAny_mono (turn i v m₁ hh' tk' s.heap.objs.size oI oD hv hJ₁ F₁ ?_) (fun f s₂ q => ?_) fun _ _ e => e
    · intro p hp
      rcases List.mem_cons.mp hp with rfl | hp
      · exact NI
      · rcases List.mem_cons.mp hp with rfl | hp
        · exact NDD
        · exact N₁ _ (List.mem_append_right _ hp)
    · obtain ⟨rfl, h', tk', m', rfl, F', N', hJ'⟩ := q
      refine .next ⟨rfl, h', tk', m', _, rfl, F', fun p hp => ?_, hoff, hJ', rfl⟩
      rcases List.mem_append.mp hp with hp | hp
      · have h2 : hh'.get? p.1 = some p.2 := hget p hp
        rcases List.mem_cons.mp (hown p hp) with e | e
        · have h3 : p = (s.heap.objs.size, oI) := by
            rw [e] at h2
            exact Prod.ext e (Option.some.inj (h2.symm.trans hoI))
          rw [h3]; exact N' _ (.head _)
        · have e := List.mem_singleton.mp e
          have h3 : p = (D, oD) := by
            rw [e] at h2
            exact Prod.ext e (Option.some.inj (h2.symm.trans hoD))
          rw [h3]; exact N' _ (.tail _ (.head _))
      · exact N' _ (.tail _ (.tail _ hp))
  · intro h' tk m' news' F' N' _ ⟨hJ', e⟩
    subst e
    exact fin h' tk m' F' N' hJ'
end
end Mine
end

section
open PySem PySem.W PyProof.Rows PySem.Calls
set_option maxRecDepth 100000
set_option maxHeartbeats 8000000
namespace Mine
abbrev primes : List Int := [7, 19, 31, 43, 67, 79, 103, 127, 139, 151, 163, 199, 211, 223, 1039, 2011, 4003, 10039]

/-- the law's search for a point -/
def search (p b : Int) : Nat → Int → Option Int
  | 0, _ => none
  | k + 1, x => if (powI (x ^ 3 + b) ((p + 1) / 4) p * powI (x ^ 3 + b) ((p + 1) / 4) p - x ^ 3 - b) % p ≠ 0 then search p b k ((x + 1) % p) else some x

def negF (p : Int) (t : T3) : T3 := (t.1, -t.2.1 % p, t.2.2)
def eqF (p : Int) (t t' : T3) : Prop := t.1 * t'.2.2 % p = t'.1 * t.2.2 % p ∧ t.2.1 * t'.2.2 % p = t'.2.1 * t.2.2 % p

/-- what the law asks of one point -/
def Asked (p : Int) (pt : T3) (n more : Int) : Prop :=
  (more = 0 → (mulF p 21 pt n).2.2 = 0) ∧
  (more < 0 → (((mulF p 21 pt n).2.2 = 0 ↔ (negF p pt).2.2 = 0) ∧ ((negF p pt).2.2 ≠ 0 → eqF p (mulF p 21 pt n) (negF p pt)))) ∧
  (0 < more → (((mulF p 21 pt n).2.2 = 0 ↔ (mulF p 21 pt more).2.2 = 0) ∧ ((mulF p 21 pt more).2.2 ≠ 0 → eqF p (mulF p 21 pt n) (mulF p 21 pt more))))

structure Math : Prop where
  count : ∀ p b : Int, p ∈ primes → 1 ≤ b → b < p → ∃ N, CountIs p b N ∧ 2 ≤ N ∧ N ≤ 20000
  search : ∀ p b x : Int, p ∈ primes → 1 ≤ b → b < p → 0 ≤ x → x < p → ∃ x1, search p b 10039 x = some x1
  asked : ∀ p b N x y z t more : Int, p ∈ primes → 1 ≤ b → b < p → CountIs p b N → (y * y - x ^ 3 - b) % p = 0 → 1 ≤ z → z < p → 1 ≤ t → t ≤ 3 → -1 ≤ more → more ≤ 2 →
    Asked p (x * z % p, y * z % p, z % p) (N * t + more) more

theorem primes_lo {p : Int} (h : p ∈ primes) : 7 ≤ p := by
  simp only [List.mem_cons, List.not_mem_nil, or_false] at h; omega
theorem primes_hi {p : Int} (h : p ∈ primes) : p ≤ 10039 := by
  simp only [List.mem_cons, List.not_mem_nil, or_false] at h; omega
theorem primes_getD {i : Int} (h0 : 0 ≤ i) (h1 : i < 18) : primes.getD i.toNat 0 ∈ primes := by
  have : i.toNat < primes.length := by show i.toNat < 18; omega
  rw [List.getD_eq_getElem?_getD, List.getElem?_eq_getElem this, Option.getD_some]
  exact List.getElem_mem this
theorem cells_len (ns : List Int) : (List.take 10 ns ++ List.drop ((List.take 10 ns).length : Int).toNat [0, 2, 1, 0, 4, 1, 3, 1, 2, 6]).length = 10 := by
  simp only [List.length_append, List.length_take, List.length_drop, List.length_cons, List.length_nil]; omega

section
variable {p n mo a b c a' b' c' : Int} {pt : T3} {r : Bool}
theorem asked_no0 (h : Asked p pt n mo) (e : (a, b, c) = mulF p 21 pt n) (hm : mo = 0) (hc : c ≠ 0) : False := by
  have := h.1 hm; rw [← e] at this; exact hc this
theorem bne_iff {c c' : Int} (h : ((c == 0) != (c' == 0)) = true) : ¬ (c = 0 ↔ c' = 0) := by
  intro q
  by_cases h1 : c = 0
  · rw [h1, q.mp h1] at h; exact absurd h (by decide)
  · have h2 : c' ≠ 0 := fun z => h1 (q.mpr z)
    have e1 : (c == 0) = false := by simpa using h1
    have e2 : (c' == 0) = false := by simpa using h2
    rw [e1, e2] at h; exact absurd h (by decide)
theorem asked_noA (h : Asked p pt n mo) (e : (a, b, c) = mulF p 21 pt n) (hm : mo < 0) (e' : (a', b', c') = negF p pt) (hc : ((c == 0) != (c' == 0)) = true) : False := by
  have := (h.2.1 hm).1; rw [← e, ← e'] at this; exact bne_iff hc this
theorem asked_noB (h : Asked p pt n mo) (e : (a, b, c) = mulF p 21 pt n) (hm : mo < 0) (e' : (a', b', c') = negF p pt) (hc : c' ≠ 0) (hr : r = true ↔ eqF p (a, b, c) (a', b', c')) (hf : r = false) : False := by
  have := (h.2.1 hm).2; rw [← e, ← e'] at this; rw [hr.mpr (this hc)] at hf; cases hf
theorem asked_noC (h : Asked p pt n mo) (e : (a, b, c) = mulF p 21 pt n) (hm : mo ≠ 0) (hm' : ¬ mo < 0) (e' : (a', b', c') = mulF p 21 pt mo) (hc : ((c == 0) != (c' == 0)) = true) : False := by
  have := (h.2.2 (by omega)).1; rw [← e, ← e'] at this; exact bne_iff hc this
theorem asked_noD (h : Asked p pt n mo) (e : (a, b, c) = mulF p 21 pt n) (hm : mo ≠ 0) (hm' : ¬ mo < 0) (e' : (a', b', c') = mulF p 21 pt mo) (hc : c' ≠ 0) (hr : r = true ↔ eqF p (a, b, c) (a', b', c')) (hf : r = false) : False := by
  have := (h.2.2 (by omega)).2; rw [← e, ← e'] at this; rw [hr.mpr (this hc)] at hf; cases hf
end
theorem mul_21 {prog : Program} {w : World} {mg mb : Str → Option Value} {p n : Int} (hp : 1 < p) (hpb : p ≤ 10039) (h0 : 0 ≤ n) (h1 : n < 2097152) : MulSpec prog w mg mb p 21 n := mul_all hp hpb 20 n (by decide) h0 (by omega)
theorem times_range (c : Int) : 1 ≤ 1 + (c.fdiv 4).fmod 3 ∧ 1 + (c.fdiv 4).fmod 3 ≤ 3 := by
  rw [Int.fmod_eq_emod_of_nonneg _ (by decide)]; omega
theorem more_range (c : Int) : -1 ≤ c.fmod 4 - 1 ∧ c.fmod 4 - 1 ≤ 2 := by
  rw [Int.fmod_eq_emod_of_nonneg _ (by decide)]; omega
theorem n_range {N t m : Int} (h2 : 2 ≤ N) (hh : N ≤ 20000) (ht : 1 ≤ t ∧ t ≤ 3) (hm : -1 ≤ m ∧ m ≤ 2) : 0 ≤ N * t + m ∧ N * t + m < 2097152 := by
  have : t = 1 ∨ t = 2 ∨ t = 3 := by omega
  rcases this with rfl | rfl | rfl <;> omega

/-- the law's names that every turn of its loop reads -/
def lawM (p b N0 : Int) (D : Addr) (tp tb tm : Tok) (u : Str → Option Value) : Str → Option Value := fun y =>
  if y = Str.ofString "p" then some (.int p tp) else if y = Str.ofString "b" then some (.int b tb) else if y = Str.ofString "many" then some (.int N0 tm) else if y = Str.ofString "cells" then some (.ref D) else u y
theorem lawM_eq {p b N0 : Int} {D : Addr} {tp tb tm : Tok} {m : Str → Option Value} (e1 : m (Str.ofString "p") = some (.int p tp)) (e2 : m (Str.ofString "b") = some (.int b tb)) (e3 : m (Str.ofString "many") = some (.int N0 tm))
    (e4 : m (Str.ofString "cells") = some (.ref D)) : m = lawM p b N0 D tp tb tm m := by
  funext y
  unfold lawM
  split
  · rename_i h; rw [h]; exact e1
  split
  · rename_i h; rw [h]; exact e2
  split
  · rename_i h; rw [h]; exact e3
  split
  · rename_i h; rw [h]; exact e4
  rfl
def LawJ (p b N0 : Int) (D : Addr) (m : Str → Option Value) : Prop :=
  ∃ tp tb tm, m (Str.ofString "p") = some (.int p tp) ∧ m (Str.ofString "b") = some (.int b tb) ∧ m (Str.ofString "many") = some (.int N0 tm) ∧ m (Str.ofString "cells") = some (.ref D)
theorem two_item {ta tb : Tok} {i : Nat} {v : Value} (h : (#[.int 2 ta, .int 6 tb] : Array Value)[i]? = some v) : ∃ at' t, v = .int at' t ∧ 2 ≤ at' ∧ at' ≤ 6 := by
  match i, h with
  | 0, h => exact ⟨2, ta, by simpa using h.symm, by decide, by decide⟩
  | 1, h => exact ⟨6, tb, by simpa using h.symm, by decide, by decide⟩
  | i + 2, h => simp at h

section
variable {prog : Program} {w : World} {A : Around} {E : Value → Shared → Prop} {s : Shared} {env : Env} {h₀ : Heap} {x : Str} {body : List Stmt} {Q : Flow → Shared → Prop}
theorem law_loop {D D1 : Addr} {ta tb tp tb' tm : Tok} {p b N0 : Int} {o1 : Obj} {rest : List (Addr × Obj)} {m₀ : Str → Option Value} (hh : A.handled = none) (F : Fr h₀ env.locals s.heap m₀)
    (N : News h₀ env.locals s.heap ((D, ({ cls := .type "tuple", data := .seq #[.int 2 ta, .int 6 tb] } : Obj)) :: (D1, o1) :: rest))
    (e1 : m₀ (Str.ofString "p") = some (.int p tp)) (e2 : m₀ (Str.ofString "b") = some (.int b tb')) (e3 : m₀ (Str.ofString "many") = some (.int N0 tm)) (e4 : m₀ (Str.ofString "cells") = some (.ref D1))
    (turn : ∀ (at' : Int) (t : Tok) m₁ h₁ tk₁ I oI oD tp tb tm, 2 ≤ at' → at' ≤ 6 → Fr h₀ env.locals h₁ (fun y => if y = x then some (.int at' t) else lawM p b N0 D1 tp tb tm m₁ y) → News h₀ env.locals h₁ [(I, oI), (D, oD), (D1, o1)] →
      wpAny (model prog w) A (execs body env) (TwoEnd h₀ env.locals s (LawJ p b N0 D1) [(I, oI), (D, oD), (D1, o1)]) E { s with heap := h₁, toks := tk₁ })
    (fin : ∀ h' tk' m', Fr h₀ env.locals h' m' → News h₀ env.locals h' [(D1, o1)] → Q .next { s with heap := h', toks := tk' }) :
    wpAny (model prog w) A (pyIter (.ref D)) (fun it s₂ => LoopAtV prog w A h₀ env x body Q E it s₂) E s := by
  refine iter_two (keep := [(D1, o1)]) hh F N (.head _) (List.forall_mem_cons.mpr ⟨.tail _ (.head _), List.forall_mem_nil _⟩) (LawJ p b N0 D1) ⟨_, _, _, e1, e2, e3, e4⟩ ?_ fun h' tk' m' F' N' _ => fin h' tk' m' F' N'
  rintro i v m₁ h₁ tk₁ I oI oD hv ⟨tp, tb, tm, a1, a2, a3, a4⟩ F₁ N₁
  obtain ⟨at', t, rfl, l1, l2⟩ := two_item hv
  rw [lawM_eq a1 a2 a3 a4] at F₁
  exact turn at' t m₁ h₁ tk₁ I oI oD tp tb tm l1 l2 F₁ N₁
theorem law_end {L : Addr} {J : (Str → Option Value) → Prop} {led news : List (Addr × Obj)} {m' : Str → Option Value} {h' : Heap} {tk' : Nat} (F : Fr h₀ L h' m') (N : News h₀ L h' news) (hs : ∀ p ∈ led, p ∈ news) (hJ : J m') : TwoEnd h₀ L s J led .next { s with heap := h', toks := tk' } :=
  ⟨rfl, h', tk', m', rfl, F, fun p hp => N p (hs p hp), hJ⟩
def JoinY (g : Heap) (L : Addr) (s : Shared) (news : List (Addr × Obj)) (m : Str → Option Value) (y : Int) (f : Flow) (s' : Shared) : Prop :=
  f = .next ∧ ∃ h' tk' y' t', s' = { s with heap := h', toks := tk' } ∧ Fr g L h' (fun z => if z = Str.ofString "y" then some (.int y' t') else m z) ∧ News g L h' news ∧ (y' = y ∨ y' = -y)
theorem joinY_same {g h' : Heap} {L : Addr} {news : List (Addr × Obj)} {m : Str → Option Value} {y : Int} {t : Tok} {tk' : Nat} (F : Fr g L h' m) (N : News g L h' news) (e : m (Str.ofString "y") = some (.int y t)) :
    JoinY g L s news m y .next { s with heap := h', toks := tk' } := by
  refine ⟨rfl, h', tk', y, t, rfl, ?_, N, .inl rfl⟩
  have q : (fun z => if z = Str.ofString "y" then some (.int y t) else m z) = m := by
    funext z
    split
    · rename_i h; rw [h]; exact e.symm
    · rfl
  rw [q]; exact F
theorem joinY_neg {g h' : Heap} {L : Addr} {news : List (Addr × Obj)} {m : Str → Option Value} {y : Int} {t : Tok} {tk' : Nat} (F : Fr g L h' (fun z => if z = Str.ofString "y" then some (.int (-y) t) else m z)) (N : News g L h' news) :
    JoinY g L s news m y .next { s with heap := h', toks := tk' } := ⟨rfl, h', tk', -y, t, rfl, F, N, .inr rfl⟩
theorem join_y {g : Heap} {L : Addr} {news : List (Addr × Obj)} {m : Str → Option Value} {t : Sem Flow} {Q : Flow → Shared → Prop} (y : Int) (F : Fr g L s.heap m) (N : News g L s.heap news) (walk : wpAny (model prog w) A t (JoinY g L s news m y) E s)
    (cont : ∀ h' tk' y' t', Fr g L h' (fun z => if z = Str.ofString "y" then some (.int y' t') else m z) → News g L h' news → (y' = y ∨ y' = -y) → Q .next { s with heap := h', toks := tk' }) : wpAny (model prog w) A t Q E s := by
  refine wpAny_mono walk (fun f s' q => ?_) fun _ _ e => e
  obtain ⟨rfl, h', tk', y', t', rfl, F', N', e⟩ := q
  exact cont h' tk' y' t' F' N' e
end
end Mine
end

section
open PySem PySem.W PyProof.Rows PySem.Calls
set_option maxRecDepth 100000
set_option maxHeartbeats 20000000
namespace Mine
section
variable {prog : Program} {w : World} {A : Around} {s : Shared} {E : Value → Shared → Prop} {Q : Value → Shared → Prop} {mg mb : Str → Option Value} {g : Heap} {L : Addr} {m : Str → Option Value}
  {news : List (Addr × Obj)} {p n : Int} {a b : Value} {t t' : T3} {bb N0 : Int}
theorem use_cube {x : Int} {tx t3 : Tok} (h0 : 0 ≤ x) (h1 : x ≤ 10039) (h : ∀ r, r = x ^ 3 → 0 ≤ r → r ≤ 2000000000000 → Q (.int r s.toks) { s with toks := s.toks + 1 }) : wpAny (model prog w) A (binaryOp .Pow (.int x tx) (.int 3 t3)) Q E s := by
  have b2 : x * x ≤ 10039 * 10039 := Int.mul_le_mul h1 h1 h0 (by decide)
  have b20 : 0 ≤ x * x := Int.mul_nonneg h0 h0
  have b3 : x * x * x ≤ 10039 * 10039 * 10039 := Int.mul_le_mul b2 h1 h0 (by decide)
  have b30 : 0 ≤ x * x * x := Int.mul_nonneg b20 h0
  have e : x ^ 3 = x * x * x := by rw [Int.pow_succ, Int.pow_succ, Int.pow_succ, Int.pow_zero, Int.one_mul]
  refine pow_int_small (by decide) (by decide) (by omega) (h _ rfl ?_ ?_)
  · show 0 ≤ x ^ 3; rw [e]; exact b30
  · show x ^ 3 ≤ _; rw [e]; omega
theorem use_isinf (F : Fr g L s.heap m) (N : News g L s.heap news) (X : (hd.heap_39 w.params).In g) (T : TopRead hd.view_39 (looseW hd.view_39 [Str.ofString "FQ"]) mg mb g) (ha : PtP w (Own g L) s.heap a p t) (hp : 1 < p) (hpb : p ≤ 10039) (hu : A.units + 3 < cLine) (hr : A.depth + 13 < recursionLimit)
    (h : ∀ h' tk', Fr g L h' m → News g L h' news → Q (.bool (t.2.2 == 0)) { s with heap := h', toks := tk' }) : wpAny (model prog w) A (call (.ref 28) [a]) Q E s :=
  isinf_ok (Cx.ofFrame F X T) ha hp hpb hu hr fun h' tk' st => h h' tk' (Fr.stay F st) (News.stay N st)
theorem use_peq (F : Fr g L s.heap m) (N : News g L s.heap news) (X : (hd.heap_39 w.params).In g) (T : TopRead hd.view_39 (looseW hd.view_39 [Str.ofString "FQ"]) mg mb g) (ha : PtP w (Own g L) s.heap a p t) (hb : PtP w (Own g L) s.heap b p t') (hp : 1 < p) (hpb : p ≤ 10039) (hh : A.handled = none) (hu : A.units + 3 < cLine) (hr : A.depth + 13 < recursionLimit)
    (h : ∀ (b' : Bool) h' tk', (b' = true ↔ eqF p t t') → Fr g L h' m → News g L h' news → Q (.bool b') { s with heap := h', toks := tk' }) : wpAny (model prog w) A (call (.ref 56) [a, b]) Q E s :=
  peq_ok (Cx.ofFrame F X T) ha hb hp hpb hh hu hr fun b' h' tk' e st => h b' h' tk' e (Fr.stay F st) (News.stay N st)
theorem use_pneg (F : Fr g L s.heap m) (N : News g L s.heap news) (X : (hd.heap_39 w.params).In g) (T : TopRead hd.view_39 (looseW hd.view_39 [Str.ofString "FQ"]) mg mb g) (ha : PtP w (Own g L) s.heap a p t) (hp : 1 < p) (hpb : p ≤ 10039) (hh : A.handled = none) (hr : A.depth + 13 < recursionLimit)
    (h : ∀ q x1 d1 t1 t2 t3 t4 x2 d2 u1 u2 u3 u4 x3 d3 w1 w2 w3 w4 h' tk' a b c, (a, b, c) = negF p t → 0 ≤ a → a < p → 0 ≤ b → b < p → 0 ≤ c → c < p → Fr g L h' m →
      News g L h' ((q, tup3 (.ref x1) (.ref x2) (.ref x3)) :: (x1, instObj 228 d1) :: (d1, fqDict w p a t1 t2 t3 t4) :: (x2, instObj 228 d2) :: (d2, fqDict w p b u1 u2 u3 u4) :: (x3, instObj 228 d3) :: (d3, fqDict w p c w1 w2 w3 w4) :: news) →
      Q (.ref q) { s with heap := h', toks := tk' }) : wpAny (model prog w) A (call (.ref 63) [a]) Q E s :=
  use_pt F N X T (fun _ C hQ => pneg_ok C ha hp hpb hh hr hQ) h
theorem use_count {tp tb : Tok} (F : Fr g L s.heap m) (N : News g L s.heap news) (X : (hd.heap_39 w.params).In g) (T : TopRead hd.view_39 (looseW hd.view_39 [Str.ofString "FQ"]) mg mb g) (hp : 1 < p) (hpb : p ≤ 10039) (hb0 : 0 ≤ bb) (hb1 : bb ≤ 10039) (hh : A.handled = none) (hr : A.depth + 8 < recursionLimit) (hc : CountIs p bb N0)
    (h : ∀ t1 h' tk', Fr g L h' m → News g L h' news → Q (.int N0 t1) { s with heap := h', toks := tk' }) : wpAny (model prog w) A (call (.ref 247) [.int p tp, .int bb tb]) Q E s :=
  count_ok (Cx.ofFrame F X T) hp hpb hb0 hb1 hh hr hc fun t1 h' tk' st => h t1 h' tk' (Fr.stay F st) (News.stay N st)
end
local macro_rules | `(tactic| walk_at "call ref") => `(tactic| (k_here; (with_reducible show wpAny _ _ (call (Value.ref 228) [Value.int _ _, Value.int _ _]) _ _ _); k_dflt (refine' use_new ?F ?N ?X ?T ?hp ?hr ?_; (case F => k_asm); (case N => k_asm); (case X => k_asm); (case T => k_asm); (case hp => first | assumption | omega); (case hr => first | (simp only [depth_deeper, depth_in1, depth_caller]; decide) | ((try simp only [depth_deeper, depth_in1]); omega)); k_whole); intro x' d' t1' t2' t3' t4' h' tk' v' e' b1' b2' F' N'; (try k_sweep); (try dsimp only [PySem.W.CmpBack])))
local macro_rules | `(tactic| walk_at "call ref") => `(tactic| (k_here; (with_reducible show wpAny _ _ (call (Value.ref 49) [Value.ref _, Value.int _ _]) _ _ _); k_dflt (refine' use_mulp ?F ?N ?X ?T ?spec ?ha ?hh ?hu ?hr ?_; (case F => k_asm); (case N => k_asm); (case X => k_asm); (case T => k_asm); (case ha => exact PtP.ofNews (by k_asm) (by k_mem) (by k_mem) (by k_mem) (by k_mem) (by k_mem) (by k_mem) (by k_mem) ⟨by first | assumption | omega, by first | assumption | omega⟩ ⟨by first | assumption | omega, by first | assumption | omega⟩ ⟨by first | assumption | omega, by first | assumption | omega⟩); (case spec => exact mul_21 (by omega) (by omega) (by omega) (by omega)); (case hh => first | exact rfl | assumption); (case hu => first | (simp only [units_deeper, units_in1, units_caller]; decide) | ((try simp only [units_deeper, units_in1]); omega)); (case hr => first | (simp only [depth_deeper, depth_in1, depth_caller]; decide) | ((try simp only [depth_deeper, depth_in1]); omega)); k_whole); intro q' x1' d1' t1' t2' t3' t4' x2' d2' u1' u2' u3' u4' x3' d3' w1' w2' w3' w4' h' tk' va' vb' vc' e' b1' b2' b3' b4' b5' b6' F' N'; (try k_sweep); (try dsimp only)))
local macro_rules | `(tactic| walk_at "call ref") => `(tactic| (k_here; (with_reducible show wpAny _ _ (call (Value.ref 28) [Value.ref _]) _ _ _); k_dflt (refine' use_isinf ?F ?N ?X ?T ?ha ?hp ?hpb ?hu ?hr ?_; (case F => k_asm); (case N => k_asm); (case X => k_asm); (case T => k_asm); (case ha => exact PtP.ofNews (by k_asm) (by k_mem) (by k_mem) (by k_mem) (by k_mem) (by k_mem) (by k_mem) (by k_mem) ⟨by first | assumption | omega, by first | assumption | omega⟩ ⟨by first | assumption | omega, by first | assumption | omega⟩ ⟨by first | assumption | omega, by first | assumption | omega⟩); (case hp => first | assumption | omega); (case hpb => first | assumption | omega); (case hu => first | (simp only [units_deeper, units_in1, units_caller]; decide) | ((try simp only [units_deeper, units_in1]); omega)); (case hr => first | (simp only [depth_deeper, depth_in1, depth_caller]; decide) | ((try simp only [depth_deeper, depth_in1]); omega)); k_whole); intro h' tk' F' N'; (try k_sweep); (try dsimp only)))
local macro_rules | `(tactic| walk_at "call ref") => `(tactic| (k_here; (with_reducible show wpAny _ _ (call (Value.ref 56) [Value.ref _, Value.ref _]) _ _ _); k_dflt (refine' use_peq ?F ?N ?X ?T ?ha ?hb ?hp ?hpb ?hh ?hu ?hr ?_; (case F => k_asm); (case N => k_asm); (case X => k_asm); (case T => k_asm); (case ha => exact PtP.ofNews (by k_asm) (by k_mem) (by k_mem) (by k_mem) (by k_mem) (by k_mem) (by k_mem) (by k_mem) ⟨by first | assumption | omega, by first | assumption | omega⟩ ⟨by first | assumption | omega, by first | assumption | omega⟩ ⟨by first | assumption | omega, by first | assumption | omega⟩); (case hb => exact PtP.ofNews (by k_asm) (by k_mem) (by k_mem) (by k_mem) (by k_mem) (by k_mem) (by k_mem) (by k_mem) ⟨by first | assumption | omega, by first | assumption | omega⟩ ⟨by first | assumption | omega, by first | assumption | omega⟩ ⟨by first | assumption | omega, by first | assumption | omega⟩); (case hp => first | assumption | omega); (case hpb => first | assumption | omega); (case hh => first | exact rfl | assumption); (case hu => first | (simp only [units_deeper, units_in1, units_caller]; decide) | ((try simp only [units_deeper, units_in1]); omega)); (case hr => first | (simp only [depth_deeper, depth_in1, depth_caller]; decide) | ((try simp only [depth_deeper, depth_in1]); omega)); k_whole); intro b' h' tk' e' F' N'; (try k_sweep); (try dsimp only)))
local macro_rules | `(tactic| walk_at "call ref") => `(tactic| (k_here; (with_reducible show wpAny _ _ (call (Value.ref 63) [Value.ref _]) _ _ _); k_dflt (refine' use_pneg ?F ?N ?X ?T ?ha ?hp ?hpb ?hh ?hr ?_; (case F => k_asm); (case N => k_asm); (case X => k_asm); (case T => k_asm); (case ha => exact PtP.ofNews (by k_asm) (by k_mem) (by k_mem) (by k_mem) (by k_mem) (by k_mem) (by k_mem) (by k_mem) ⟨by first | assumption | omega, by first | assumption | omega⟩ ⟨by first | assumption | omega, by first | assumption | omega⟩ ⟨by first | assumption | omega, by first | assumption | omega⟩); (case hp => first | assumption | omega); (case hpb => first | assumption | omega); (case hh => first | exact rfl | assumption); (case hr => first | (simp only [depth_deeper, depth_in1, depth_caller]; decide) | ((try simp only [depth_deeper, depth_in1]); omega)); k_whole); intro q' x1' d1' t1' t2' t3' t4' x2' d2' u1' u2' u3' u4' x3' d3' w1' w2' w3' w4' h' tk' va' vb' vc' e' b1' b2' b3' b4' b5' b6' F' N'; (try k_sweep); (try dsimp only)))
local macro_rules | `(tactic| walk_at "call ref") => `(tactic| (k_here; (with_reducible show wpAny _ _ (call (Value.ref 247) [Value.int _ _, Value.int _ _]) _ _ _); k_dflt (refine' use_count ?F ?N ?X ?T ?hp ?hpb ?hb0 ?hb1 ?hh ?hr ?hc ?_; (case F => k_asm); (case N => k_asm); (case X => k_asm); (case T => k_asm); (case hp => first | assumption | omega); (case hpb => first | assumption | omega); (case hb0 => first | assumption | omega); (case hb1 => first | assumption | omega); (case hh => first | exact rfl | assumption); (case hr => first | (simp only [depth_deeper, depth_in1, depth_caller]; decide) | ((try simp only [depth_deeper, depth_in1]); omega)); (case hc => assumption); k_whole); intro t' h' tk' F' N'; (try k_sweep); (try dsimp only)))
local macro_rules | `(tactic| walk_at "binaryOp Pow int int") => `(tactic| (k_here; (with_reducible show wpAny _ _ (binaryOp Operator.Pow (Value.int _ _) (Value.int 3 _)) _ _ _); k_dflt (refine' use_cube ?h0 ?h1 ?_; (case h0 => first | assumption | omega); (case h1 => omega); k_whole); intro r' er' rl' rh'; (try dsimp only)))
local macro_rules | `(tactic| walk_at "call builtin:pow") => `(tactic| (k_here; k_dflt (refine' use_pow ?hb ?hc ?_; (case hb => first | omega | (rw [Int.fdiv_eq_ediv_of_nonneg _ (by decide)]; omega)); (case hc => omega); k_whole); intro r' er' rl' rh'; (try dsimp only)))
local macro_rules | `(tactic| walk_at "subscriptTail Name Slice ref ref") => `(tactic| (k_here; (with_reducible show wpAny _ _ (subscriptTail _ (PySem.Expr.Slice (some _) none none _) (Value.ref _) (Value.ref _)) _ _ _); k_dflt (refine' kmk_slice_ints ?F ?N ?l ?p ?q ?i ?m ?c ?_ ?s ?t ?z; (case F => k_asm); (case N => k_asm); (case l => kmk_list); (case p => kmk_part); (case q => kmk_part); (case i => l_ints); (case m => exact kmk_from (by l_ints) (Int.natCast_nonneg _)); (case c => kmk_len); (case s => with_unfolding_all rfl); (case t => kmk_pure); (case z => kmk_size)); intro D' ws' h' F' N' l1 hI' hC' hL'; (try simp only [Int.reduceNeg, Int.neg_neg, Int.reduceToNat] at hI' hC' hL'); (try k_lt l1); (try k_sweep)))

theorem main (M0 : Math) : PySem.Challenge.rw_bb0059_01.Holds := hd (by
  k_go0
  all_goals try k_fold
  repeat' ((fail_if_success (with_reducible show wpAny _ _ (storeName _ (Str.ofString "p") _) _ _ _)); first | (k_unfold; (try dsimp only)) | walk1 | (dsimp only; walk1) | (leave1; walk_say "STEP leave1"; try dsimp only))
  rename 0 ≤ Int.fmod _ 18 => hlo
  rename Int.fmod _ 18 < 18 => hhi
  have hp := primes_getD hlo hhi
  have hlen := cells_len (by assumption)
  generalize primes.getD _ 0 = p at hp ⊢
  generalize (List.take 10 _ ++ List.drop _ _) = cs at *
  have hp7 := primes_lo hp
  have hph := primes_hi hp
  clear hlo hhi
  repeat' ((fail_if_success (with_reducible show wpAny _ _ (storeName _ (Str.ofString "b") _) _ _ _)); first | (k_unfold; (try dsimp only)) | walk1 | (dsimp only; walk1) | (leave1; walk_say "STEP leave1"; try dsimp only))
  have hb1 : 1 ≤ 1 + (cs.getD (Int.toNat 1) 0).fmod (p - 1) := by rw [Int.fmod_eq_emod_of_nonneg _ (by omega)]; have := Int.emod_nonneg (cs.getD (Int.toNat 1) 0) (show p - 1 ≠ 0 by omega); omega
  have hb2 : 1 + (cs.getD (Int.toNat 1) 0).fmod (p - 1) < p := by rw [Int.fmod_eq_emod_of_nonneg _ (by omega)]; have := Int.emod_lt_of_pos (cs.getD (Int.toNat 1) 0) (show 0 < p - 1 by omega); omega
  generalize 1 + (cs.getD (Int.toNat 1) 0).fmod (p - 1) = b at hb1 hb2 ⊢
  obtain ⟨N0, hN, hN2, hNh⟩ := M0.count p b hp hb1 hb2
  repeat' ((fail_if_success (with_reducible show wpAny _ _ (exec (Stmt.For _ _ _ _ _) _) _ _ _)); first | (k_unfold; (try dsimp only)) | walk1 | (dsimp only; walk1) | (leave1; walk_say "STEP leave1"; try dsimp only))
  rename Fr _ _ _ _ => F1
  with_unfolding_all refine' For_invVF F1 ?k1 ?k2 ?_
  case k1 => exact rfl
  case k2 => exact rfl
  repeat' ((fail_if_success (with_reducible show wpAny _ _ (pyIter _) _ _ _)); first | (k_unfold; (try dsimp only)) | walk1 | (dsimp only; walk1) | (leave1; walk_say "STEP leave1"; try dsimp only))
  rename Fr _ _ _ _ => F1
  rename News _ _ _ _ => N1
  refine law_loop (by exact rfl) F1 N1 rfl rfl rfl rfl ?turn ?fin
  case fin =>
    clear F1 N1
    intro h9 tk9 m9 F9 N9
    k_steps
  case turn =>
    clear F1 N1
    intro at' t9 m9 h9 tk9 I9 oI oD tp9 tb9 tm9 l1 l2 F9 N9
    repeat' ((fail_if_success (with_reducible show wpAny _ _ (storeName _ (Str.ofString "x") _) _ _ _)); first | (k_unfold; (try dsimp only)) | walk1 | (dsimp only; walk1) | (leave1; walk_say "STEP leave1"; try dsimp only))
    have hx0 : 0 ≤ (cs.getD (Int.toNat at') 0).fmod p := by rw [Int.fmod_eq_emod_of_nonneg _ (by omega)]; exact Int.emod_nonneg _ (by omega)
    have hx1 : (cs.getD (Int.toNat at') 0).fmod p < p := by rw [Int.fmod_eq_emod_of_nonneg _ (by omega)]; exact Int.emod_lt_of_pos _ (by omega)
    generalize (cs.getD (Int.toNat at') 0).fmod p = x at hx0 hx1 ⊢
    repeat' ((fail_if_success (with_reducible show wpAny _ _ (exec (Stmt.While _ _ _ _) _) _ _ _)); first | (k_unfold; (try dsimp only)) | walk1 | (dsimp only; walk1) | (leave1; walk_say "STEP leave1"; try dsimp only))
    rename _ = powI _ _ p => ey
    rename _ = x ^ 3 => ec
    have efd : (p + 1).fdiv 4 = (p + 1) / 4 := Int.fdiv_eq_ediv_of_nonneg _ (by decide)
    rw [ec, efd] at ey
    obtain ⟨x1, hsr⟩ := M0.search p b x hp hb1 hb2 hx0 hx1
    rename Fr _ _ _ _ => F1
    rename News _ _ _ _ => N1
    refine ksw_while (σ := Int × Int × Nat × Tok × Tok) (fun _ => _) (fun c => [(Str.ofString "x", .int c.1 c.2.2.2.1), (Str.ofString "y", .int c.2.1 c.2.2.2.2)]) (fun _ => True) [Str.ofString "x", Str.ofString "y"]
      (fun c => c.2.1 = powI (c.1 ^ 3 + b) ((p + 1) / 4) p ∧ (0 ≤ c.1 ∧ c.1 < p) ∧ (0 ≤ c.2.1 ∧ c.2.1 < p) ∧ search p b c.2.2.1 c.1 = some x1) (fun c => c.2.2.1)
      (x, _, 10039, _, _) F1 N1 trivial (List.forall_mem_cons.mpr ⟨rfl, List.forall_mem_cons.mpr ⟨rfl, List.forall_mem_nil _⟩⟩) ⟨ey, ⟨hx0, hx1⟩, ⟨by assumption, by assumption⟩, hsr⟩ ?_
    clear F1 N1 hsr ey ec hx0 hx1
    rintro ⟨x, y, k, t1, t2⟩ u h1 tk1 - ⟨hy, ⟨hx0, hx1⟩, ⟨hy0, hy1⟩, hP⟩ F2 N2
    dsimp only at hP hy hx0 hx1 hy0 hy1 F2 N2 ⊢
    cases k with
    | zero => cases hP
    | succ k =>
    rw [search, ← hy] at hP
    repeat' ((fail_if_success (with_reducible show wpAny _ _ (storeName _ (Str.ofString "x") _) _ _ _)); (fail_if_success (with_reducible show wpAny _ _ (exec (Stmt.If _ _ _ _) _) _ _ _)); first | (k_unfold; (try dsimp only)) | walk1 | (dsimp only; walk1) | (leave1; walk_say "STEP leave1"; try dsimp only))
    · rename Int.fmod _ p ≠ 0 => hne
      rename _ = x ^ 3 => ec
      rw [ec, Int.fmod_eq_emod_of_nonneg _ (by omega)] at hne
      rw [if_pos hne, ← Int.fmod_eq_emod_of_nonneg (x + 1) (show 0 ≤ p by omega)] at hP
      have hw0 : 0 ≤ (x + 1).fmod p := by rw [Int.fmod_eq_emod_of_nonneg _ (by omega)]; exact Int.emod_nonneg _ (by omega)
      have hw1 : (x + 1).fmod p < p := by rw [Int.fmod_eq_emod_of_nonneg _ (by omega)]; exact Int.emod_lt_of_pos _ (by omega)
      generalize (x + 1).fmod p = x2 at hw0 hw1 hP ⊢
      repeat' ( first | (k_unfold; (try dsimp only)) | walk1 | (dsimp only; walk1) | (leave1; walk_say "STEP leave1"; try dsimp only))
      rename _ = powI _ _ p => ey
      rename _ = x2 ^ 3 => ec2
      rw [ec2, efd] at ey
      rename Fr _ _ _ _ => F3
      rename News _ _ _ _ => N3
      exact ksw_end (x2, _, k, _, _) F3 N3 (by repeat first | exact fun _ h => h | refine sub_tail ?_) trivial (List.forall_mem_cons.mpr ⟨rfl, List.forall_mem_cons.mpr ⟨rfl, List.forall_mem_nil _⟩⟩) (by intro z h2 _; simp only [List.forall_mem_cons, List.not_mem_nil, false_implies, implies_true, and_true, ne_eq] at h2; simp [kstB, h2]) ⟨ey, ⟨hw0, hw1⟩, ⟨by assumption, by assumption⟩, hP⟩ (Nat.lt_succ_self _)
    rename Int.fmod _ p = 0 => hon
    rename _ = x ^ 3 => ec
    rw [ec, Int.fmod_eq_emod_of_nonneg _ (by omega)] at hon
    clear hP hy ec
    rename Fr _ _ _ _ => F1
    rename News _ _ _ _ => N1
    refine join_y y F1 N1 ?walk ?cont
    case walk =>
      repeat' ( first | (k_unfold; (try dsimp only)) | walk1 | (dsimp only; walk1) | (leave1; walk_say "STEP leave1"; try dsimp only))
      all_goals rename Fr _ _ _ _ => F3
      all_goals rename News _ _ _ _ => N3
      all_goals first
        | exact joinY_neg F3 N3
        | exact joinY_same F3 N3 rfl
    case cont =>
    clear F1 N1
    intro h9 tk9 y' t' F9 N9 hyy
    (try dsimp only)
    have hon' : (y' * y' - x ^ 3 - b) % p = 0 := by
      rcases hyy with rfl | rfl
      · exact hon
      · rw [Int.neg_mul_neg]; exact hon
    have hy2 : -p < y' ∧ y' < p := by omega
    clear hon hyy
    repeat' ((fail_if_success (with_reducible show wpAny _ _ (storeName _ (Str.ofString "z") _) _ _ _)); first | (k_unfold; (try dsimp only)) | walk1 | (dsimp only; walk1) | (leave1; walk_say "STEP leave1"; try dsimp only))
    have hz0 : 1 ≤ 1 + (cs.getD (Int.toNat (at' + 2)) 0).fmod (p - 1) := by rw [Int.fmod_eq_emod_of_nonneg _ (by omega)]; have := Int.emod_nonneg (cs.getD (Int.toNat (at' + 2)) 0) (show p - 1 ≠ 0 by omega); omega
    have hz1 : 1 + (cs.getD (Int.toNat (at' + 2)) 0).fmod (p - 1) < p := by rw [Int.fmod_eq_emod_of_nonneg _ (by omega)]; have := Int.emod_lt_of_pos (cs.getD (Int.toNat (at' + 2)) 0) (show 0 < p - 1 by omega); omega
    generalize 1 + (cs.getD (Int.toNat (at' + 2)) 0).fmod (p - 1) = z at hz0 hz1 ⊢
    repeat' ((fail_if_success (with_reducible show wpAny _ _ (storeName _ (Str.ofString "times") _) _ _ _)); (fail_if_success (with_reducible show wpAny _ _ (storeName _ (Str.ofString "more") _) _ _ _)); first | (k_unfold; (try dsimp only)) | walk1 | (dsimp only; walk1) | (leave1; walk_say "STEP leave1"; try dsimp only))
    have hm := more_range (cs.getD (Int.toNat (at' + 3)) 0)
    generalize (cs.getD (Int.toNat (at' + 3)) 0).fmod 4 - 1 = mo at hm ⊢
    have ht := times_range (cs.getD (Int.toNat (at' + 3)) 0)
    generalize 1 + ((cs.getD (Int.toNat (at' + 3)) 0).fdiv 4).fmod 3 = tms at ht ⊢
    walk1
    repeat' ((fail_if_success (with_reducible show wpAny _ _ (storeName _ (Str.ofString "times") _) _ _ _)); (fail_if_success (with_reducible show wpAny _ _ (storeName _ (Str.ofString "more") _) _ _ _)); first | (k_unfold; (try dsimp only)) | walk1 | (dsimp only; walk1) | (leave1; walk_say "STEP leave1"; try dsimp only))
    walk1
    have hnb := n_range hN2 hNh ht hm
    have hask := M0.asked p b N0 x y' z tms mo hp hb1 hb2 hN hon' hz0 hz1 ht.1 ht.2 hm.1 hm.2
    repeat' ( first | (k_unfold; (try dsimp only)) | walk1 | (dsimp only; walk1) | (leave1; walk_say "STEP leave1"; try dsimp only))
    all_goals rename Fr _ _ _ _ => F3
    all_goals rename News _ _ _ _ => N3
    all_goals subst_vars
    all_goals first
      | exact law_end F3 N3 (by repeat first | exact fun _ h => h | refine sub_tail ?_) ⟨_, _, _, rfl, rfl, rfl, rfl⟩
      | (exfalso; exact asked_no0 (by assumption) (by assumption) (by first | rfl | assumption) (by assumption))
      | (exfalso; exact asked_noA (by assumption) (by assumption) (by assumption) (by assumption) (by assumption))
      | (exfalso; exact asked_noB (by assumption) (by assumption) (by assumption) (by assumption) (by assumption) (by assumption) (by first | rfl | assumption))
      | (exfalso; exact asked_noC (by assumption) (by assumption) (by assumption) (by assumption) (by assumption) (by assumption))
      | (exfalso; exact asked_noD (by assumption) (by assumption) (by assumption) (by assumption) (by assumption) (by assumption) (by assumption) (by first | rfl | assumption)))
end Mine
end

section
namespace Mine
open Lean.Grind
/-- points of a curve y^2 = x^3 + b -/
inductive Pt (F : Type) where
  | inf
  | aff (x y : F)
section
variable {F : Type} [CommRing F]

/-- the slope of the line through two points, or of the tangent -/
def Line (l x1 y1 x2 y2 : F) : Prop := l * (x2 - x1) = y2 - y1 ∧ l * (y1 + y2) = x1 * x1 + x1 * x2 + x2 * x2

theorem line_symm {l x1 y1 x2 y2 : F} (h : Line l x1 y1 x2 y2) : Line l x2 y2 x1 y1 := by
  obtain ⟨h1, h2⟩ := h
  constructor
  · clear h2; grind
  · clear h1; grind
theorem line_neg {l x1 y1 x2 y2 : F} (h : Line l x1 y1 x2 y2) : Line (-l) x1 (-y1) x2 (-y2) := by
  obtain ⟨h1, h2⟩ := h
  constructor
  · clear h2; grind
  · clear h1; grind
theorem line_y2 {l x1 y1 x2 y2 : F} (h : Line l x1 y1 x2 y2) : y2 = y1 + l * (x2 - x1) := by
  obtain ⟨h1, _⟩ := h; grind
theorem line_k {l x1 y1 x2 y2 : F} (h : Line l x1 y1 x2 y2) : 2 * l * y1 = x1 * x1 + x1 * x2 + x2 * x2 - l * l * (x2 - x1) := by
  have e := line_y2 h
  obtain ⟨_, h2⟩ := h; subst e; grind
theorem b_of {b x1 y1 : F} (c1 : y1 * y1 = x1 * x1 * x1 + b) : b = y1 * y1 - x1 * x1 * x1 := by grind
theorem on_of {b x1 y1 : F} (c1 : y1 * y1 - (x1 * x1 * x1 + b) = 0) : y1 * y1 = x1 * x1 * x1 + b := by grind
theorem id_on (l x1 y1 x3 : F) : (l * (x1 - x3) - y1) * (l * (x1 - x3) - y1) - (x3 * x3 * x3 + (y1 * y1 - x1 * x1 * x1)) = (x3 - x1) * (2 * l * y1 + l * l * (x3 - x1) - x3 * x3 - x3 * x1 - x1 * x1) := by grind
theorem id_on2 (l x1 x2 : F) : x1 * x1 + x1 * x2 + x2 * x2 - l * l * (x2 - x1) + l * l * ((l * l - x1 - x2) - x1) - (l * l - x1 - x2) * (l * l - x1 - x2) - (l * l - x1 - x2) * x1 - x1 * x1 = 0 := by grind
theorem mul_z (a : F) : a * 0 = 0 := by grind
/-- the sum lies on the curve -/
theorem sum_on {b l x1 y1 x2 y2 x3 y3 : F} (c1 : y1 * y1 = x1 * x1 * x1 + b) (h : Line l x1 y1 x2 y2) (h3 : x3 = l * l - x1 - x2) (h4 : y3 = l * (x1 - x3) - y1) : y3 * y3 = x3 * x3 * x3 + b := by
  have k := line_k h
  have hb := b_of c1
  subst hb h4
  refine on_of ?_
  rw [id_on, k]
  subst h3
  rw [id_on2, mul_z]
/-- the third point on the line -/
theorem id_t1 (l x1 y1 x3 : F) : l * (x3 - x1) = - (l * (x1 - x3) - y1) - y1 := by grind
theorem id_t2 (l x1 y1 x3 : F) : l * (y1 + - (l * (x1 - x3) - y1)) = 2 * l * y1 - l * l * (x1 - x3) := by grind
theorem id_t3 (l x1 x2 : F) : x1 * x1 + x1 * x2 + x2 * x2 - l * l * (x2 - x1) - l * l * (x1 - (l * l - x1 - x2)) = x1 * x1 + x1 * (l * l - x1 - x2) + (l * l - x1 - x2) * (l * l - x1 - x2) := by grind
theorem line_third {l x1 y1 x2 y2 x3 y3 : F} (h : Line l x1 y1 x2 y2) (h3 : x3 = l * l - x1 - x2) (h4 : y3 = l * (x1 - x3) - y1) : Line l x1 y1 x3 (-y3) := by
  have k := line_k h
  subst h4
  refine ⟨id_t1 _ _ _ _, ?_⟩
  rw [id_t2, k]
  subst h3
  exact id_t3 _ _ _
theorem id_v (l x1 y1 : F) : - (2 * l * (y1 - l * x1)) = - (2 * l * y1) + 2 * l * l * x1 := by grind
theorem id_v2 (l x1 x2 : F) : x1 * x2 + x1 * (l * l - x1 - x2) + x2 * (l * l - x1 - x2) = - (x1 * x1 + x1 * x2 + x2 * x2 - l * l * (x2 - x1)) + 2 * l * l * x1 := by grind
theorem vieta2 {l x1 y1 x2 y2 x3 m : F} (h : Line l x1 y1 x2 y2) (h3 : x3 = l * l - x1 - x2) (hm : m = y1 - l * x1) : x1 * x2 + x1 * x3 + x2 * x3 = - (2 * l * m) := by
  have k := line_k h
  subst hm
  rw [id_v, k]
  subst h3
  exact id_v2 _ _ _
end
end Mine
end

section
set_option linter.all false
namespace Mine
open Lean.Grind
structure Cv (F : Type) [CommRing F] where
  inv : F → F
  hinv : ∀ a, a ≠ 0 → a * inv a = 1
  b : F
  two : (2 : F) ≠ 0
  three : (3 : F) ≠ 0
  hb : b ≠ 0

section
variable {F : Type} [CommRing F]
theorem id_d (a i b : F) : i * (a * b) = (a * i) * b := by grind
theorem one_mul' (a : F) : 1 * a = a := by grind
theorem zero_of_sub {a b : F} (h : a - b = 0) : a = b := by grind
theorem sub_of {a b : F} (h : a = b) : a - b = 0 := by grind
theorem id_m (a x y : F) : a * (x - y) = a * x - a * y := by grind
theorem dom (C : Cv F) {a b : F} (h : a * b = 0) : a = 0 ∨ b = 0 := by
  by_cases ha : a = 0
  · exact .inl ha
  · right
    have e := id_d a (C.inv a) b
    rw [h, C.hinv a ha, one_mul', mul_z] at e
    exact e.symm
theorem canc (C : Cv F) {a x y : F} (ha : a ≠ 0) (h : a * x = a * y) : x = y := by
  have e : a * (x - y) = 0 := by rw [id_m]; exact sub_of h
  exact zero_of_sub ((dom C e).resolve_left ha)

variable [DecidableEq F]
def slope (C : Cv F) (x1 y1 x2 y2 : F) : F := if x1 = x2 then (3 * x1 * x1) * C.inv (2 * y1) else (y2 - y1) * C.inv (x2 - x1)
def padd (C : Cv F) : Pt F → Pt F → Pt F
  | .inf, Q => Q
  | .aff x1 y1, .inf => .aff x1 y1
  | .aff x1 y1, .aff x2 y2 => if x1 = x2 ∧ y1 + y2 = 0 then .inf else
      .aff (slope C x1 y1 x2 y2 * slope C x1 y1 x2 y2 - x1 - x2) (slope C x1 y1 x2 y2 * (x1 - (slope C x1 y1 x2 y2 * slope C x1 y1 x2 y2 - x1 - x2)) - y1)
def pneg : Pt F → Pt F
  | .inf => .inf
  | .aff x y => .aff x (-y)
def On (C : Cv F) : Pt F → Prop
  | .inf => True
  | .aff x y => y * y = x * x * x + C.b

theorem id_s1 (d i n : F) : n * i * d = n * (d * i) := by grind
theorem mul_one' (a : F) : a * 1 = a := by grind
theorem id_s2 (x1 y1 x2 y2 : F) (c : F) (c1 : y1 * y1 = x1 * x1 * x1 + c) (c2 : y2 * y2 = x2 * x2 * x2 + c) : (y2 - y1) * (y1 + y2) = (x2 - x1) * (x1 * x1 + x1 * x2 + x2 * x2) := by grind
theorem id_s3 (l d y : F) : d * (l * y) = (l * d) * y := by grind
theorem sub_ne {a b : F} (h : ¬ a = b) : b - a ≠ 0 := fun e => h (by grind)
theorem id_s4 (x1 y1 y2 c : F) (c1 : y1 * y1 = x1 * x1 * x1 + c) (c2 : y2 * y2 = x1 * x1 * x1 + c) : (y1 + y2) * (y2 - y1) = 0 := by grind
theorem id_s5 (y : F) : 2 * y = y + y := by grind
theorem id_s6 (l x : F) (y : F) : l * (x - x) = y - y := by grind
theorem id_s7 (x : F) : 3 * x * x = x * x + x * x + x * x := by grind

theorem slope_line (C : Cv F) {x1 y1 x2 y2 : F} (c1 : y1 * y1 = x1 * x1 * x1 + C.b) (c2 : y2 * y2 = x2 * x2 * x2 + C.b) (h : ¬ (x1 = x2 ∧ y1 + y2 = 0)) : Line (slope C x1 y1 x2 y2) x1 y1 x2 y2 := by
  unfold slope
  by_cases hx : x1 = x2
  · subst hx
    have hy : y1 + y2 ≠ 0 := fun e => h ⟨rfl, e⟩
    have e1 : y2 - y1 = 0 := (dom C (id_s4 x1 y1 y2 C.b c1 c2)).resolve_left hy
    have e2 : y2 = y1 := zero_of_sub e1
    subst e2
    rw [if_pos rfl]
    refine ⟨id_s6 _ _ _, ?_⟩
    rw [← id_s5] at hy ⊢
    rw [id_s1, C.hinv _ hy, mul_one', id_s7]
  · rw [if_neg hx]
    have hd := sub_ne hx
    have e1 : (y2 - y1) * C.inv (x2 - x1) * (x2 - x1) = y2 - y1 := by rw [id_s1, C.hinv _ hd, mul_one']
    refine ⟨e1, canc C hd ?_⟩
    rw [id_s3, e1]
    exact id_s2 _ _ _ _ _ c1 c2

theorem id_u (l l' d : F) : d * l = l * d := by grind
theorem line_uniq (C : Cv F) {l l' x1 y1 x2 y2 : F} (h : ¬ (x1 = x2 ∧ y1 + y2 = 0)) (a : Line l x1 y1 x2 y2) (a' : Line l' x1 y1 x2 y2) : l = l' := by
  by_cases hx : x1 = x2
  · have hy : y1 + y2 ≠ 0 := fun e => h ⟨hx, e⟩
    refine canc C hy ?_
    rw [id_u l l', id_u l' l, a.2, a'.2]
  · refine canc C (sub_ne hx) ?_
    rw [id_u l l', id_u l' l, a.1, a'.1]

theorem padd_line (C : Cv F) {l x1 y1 x2 y2 : F} (c1 : y1 * y1 = x1 * x1 * x1 + C.b) (c2 : y2 * y2 = x2 * x2 * x2 + C.b) (h : ¬ (x1 = x2 ∧ y1 + y2 = 0)) (a : Line l x1 y1 x2 y2) :
    padd C (.aff x1 y1) (.aff x2 y2) = .aff (l * l - x1 - x2) (l * (x1 - (l * l - x1 - x2)) - y1) := by
  have e := line_uniq C h (slope_line C c1 c2 h) a
  unfold padd; dsimp only
  rw [if_neg h, e]
theorem padd_opp (C : Cv F) {x1 y1 x2 y2 : F} (h : x1 = x2 ∧ y1 + y2 = 0) : padd C (.aff x1 y1) (.aff x2 y2) = .inf := by
  unfold padd; dsimp only; rw [if_pos h]
theorem padd_inf (C : Cv F) (P : Pt F) : padd C P .inf = P := by cases P <;> rfl
theorem inf_padd (C : Cv F) (P : Pt F) : padd C .inf P = P := rfl

theorem padd_on (C : Cv F) {P Q : Pt F} (hP : On C P) (hQ : On C Q) : On C (padd C P Q) := by
  cases P with
  | inf => exact hQ
  | aff x1 y1 =>
    cases Q with
    | inf => exact hP
    | aff x2 y2 =>
      by_cases h : x1 = x2 ∧ y1 + y2 = 0
      · rw [padd_opp C h]; exact True.intro
      · have a := slope_line C hP hQ h
        rw [padd_line C hP hQ h a]
        exact sum_on hP a rfl rfl
theorem id_n (y : F) : -y * -y = y * y := by grind
theorem pneg_on (C : Cv F) {P : Pt F} (hP : On C P) : On C (pneg P) := by
  cases P with
  | inf => exact True.intro
  | aff x y => show -y * -y = _; rw [id_n]; exact hP
theorem id_c1 (l x1 x2 : F) : l * l - x2 - x1 = l * l - x1 - x2 := by grind
theorem id_c2 (l x1 y1 x2 y2 x3 : F) (h : l * (x2 - x1) = y2 - y1) : l * (x2 - x3) - y2 = l * (x1 - x3) - y1 := by grind
theorem id_c3 (a b : F) : a + b = b + a := by grind
theorem padd_comm (C : Cv F) {P Q : Pt F} (hP : On C P) (hQ : On C Q) : padd C P Q = padd C Q P := by
  cases P with
  | inf => rw [padd_inf]; rfl
  | aff x1 y1 =>
    cases Q with
    | inf => rfl
    | aff x2 y2 =>
      by_cases h : x1 = x2 ∧ y1 + y2 = 0
      · rw [padd_opp C h, padd_opp C ⟨h.1.symm, (id_c3 _ _).trans h.2⟩]
      · have a := slope_line C hP hQ h
        have h' : ¬ (x2 = x1 ∧ y2 + y1 = 0) := fun e => h ⟨e.1.symm, (id_c3 _ _).trans e.2⟩
        rw [padd_line C hP hQ h a, padd_line C hQ hP h' (line_symm a), id_c1, id_c2 _ _ _ _ _ _ a.1]
theorem neg_z (y : F) : y + -y = 0 := by grind
theorem neg_z' (y : F) : -y + y = 0 := by grind
theorem padd_neg (C : Cv F) {P : Pt F} : padd C P (pneg P) = .inf := by
  cases P with
  | inf => rfl
  | aff x y => exact padd_opp C ⟨rfl, neg_z y⟩
theorem neg_padd (C : Cv F) {P : Pt F} : padd C (pneg P) P = .inf := by
  cases P with
  | inf => rfl
  | aff x y => exact padd_opp C ⟨rfl, neg_z' y⟩
theorem id_nn (y : F) : - -y = y := by grind
theorem pneg_pneg (P : Pt F) : pneg (pneg P) = P := by
  cases P with
  | inf => rfl
  | aff x y => show Pt.aff x (- -y) = _; rw [id_nn]
theorem id_na (l x1 x2 : F) : -l * -l - x1 - x2 = l * l - x1 - x2 := by grind
theorem id_nb (l x1 y1 x3 : F) : -l * (x1 - x3) - -y1 = -(l * (x1 - x3) - y1) := by grind
theorem id_nc (y1 y2 : F) (h : y1 + y2 = 0) : -y1 + -y2 = 0 := by grind
theorem id_nd (y1 y2 : F) (h : -y1 + -y2 = 0) : y1 + y2 = 0 := by grind
theorem pneg_padd (C : Cv F) {P Q : Pt F} (hP : On C P) (hQ : On C Q) : pneg (padd C P Q) = padd C (pneg P) (pneg Q) := by
  cases P with
  | inf => rfl
  | aff x1 y1 =>
    cases Q with
    | inf => rfl
    | aff x2 y2 =>
      by_cases h : x1 = x2 ∧ y1 + y2 = 0
      · rw [padd_opp C h]
        exact (padd_opp C ⟨h.1, id_nc _ _ h.2⟩).symm
      · have a := slope_line C hP hQ h
        rw [padd_line C hP hQ h a]
        show Pt.aff _ _ = padd C (.aff x1 (-y1)) (.aff x2 (-y2))
        rw [padd_line C (pneg_on C (P := .aff x1 y1) hP) (pneg_on C (P := .aff x2 y2) hQ) (fun e => h ⟨e.1, id_nd _ _ e.2⟩) (line_neg a), id_na, id_nb]
end
end Mine
end

section
set_option linter.all false
namespace Mine
open Lean.Grind
section
variable {F : Type} [CommRing F] [DecidableEq F]

theorem id_k1 (l x1 x2 y1 : F) (h : y1 = l * (x1 - (l * l - x1 - x2)) - y1) (hx : x1 = l * l - x1 - x2) : 2 * y1 = 0 := by grind
theorem id_k2 (l x1 x2 : F) (k : 2 * l * 0 = x1 * x1 + x1 * x2 + x2 * x2 - l * l * (x2 - x1)) (hx : x1 = l * l - x1 - x2) : 3 * (x1 * x1) = 0 := by grind
theorem id_k3 (y1 y3 : F) (h : -y1 + y3 = 0) : y1 = y3 := by grind
theorem id_k4 (b : F) (h : (0 : F) * 0 = 0 * 0 * 0 + b) : b = 0 := by grind
theorem not_self (C : Cv F) {l x1 y1 x2 y2 : F} (c1 : y1 * y1 = x1 * x1 * x1 + C.b) (a : Line l x1 y1 x2 y2) (hx : x1 = l * l - x1 - x2) (hy : -y1 + (l * (x1 - (l * l - x1 - x2)) - y1) = 0) : False := by
  have e1 := id_k3 _ _ hy
  have e2 := (dom C (id_k1 l x1 x2 y1 e1 hx)).resolve_left C.two
  have k := line_k a
  rw [e2] at k
  have e3 := (dom C (id_k2 l x1 x2 k hx)).resolve_left C.three
  have e4 : x1 = 0 := (dom C e3).elim id id
  rw [e2, e4] at c1
  exact C.hb (id_k4 _ c1)

theorem id_r1 (l x1 x2 : F) : -l * -l - x1 - (l * l - x1 - x2) = x2 := by grind
theorem id_r2 (l x1 y1 x2 y2 : F) (h : l * (x2 - x1) = y2 - y1) : -l * (x1 - x2) - -y1 = y2 := by grind
theorem cancel (C : Cv F) {P Q : Pt F} (hP : On C P) (hQ : On C Q) : padd C (pneg P) (padd C P Q) = Q := by
  cases P with
  | inf => rfl
  | aff x1 y1 =>
    cases Q with
    | inf => rw [padd_inf]; exact neg_padd C
    | aff x2 y2 =>
      by_cases h : x1 = x2 ∧ y1 + y2 = 0
      · rw [padd_opp C h, padd_inf]
        show Pt.aff x1 (-y1) = _
        have e : -y1 = y2 := by have := h.2; grind
        rw [h.1, e]
      · have a := slope_line C hP hQ h
        generalize slope C x1 y1 x2 y2 = l at a
        rw [padd_line C hP hQ h a]
        have a3 := line_neg (line_third a rfl rfl)
        rw [id_nn] at a3
        have c3 := sum_on hP a rfl rfl
        show padd C (.aff x1 (-y1)) _ = _
        rw [padd_line C (pneg_on C (P := .aff x1 y1) hP) c3 (fun e => not_self C hP a e.1 e.2) a3, id_r1, id_r2 _ _ _ _ _ a.1]

/-- the conic's coefficients: slopes l, l' of two lines that meet in points of one x -/
abbrev gA (x l l' : F) : F := x + l * l'
abbrev gC (x l l' m m' : F) : F := x * x + l * l' * x + l * m' + l' * m

theorem id_g1 (x1 y1 x5 y5 l3 l4 : F) : x1 * x1 + gA x5 l3 l4 * x1 + gC x5 l3 l4 (-y5 - l3 * x5) (y1 - l4 * x1) - (l3 + l4) * y1 = x1 * x1 + x1 * x5 + x5 * x5 - l4 * (y1 + y5) := by grind
theorem id_g2 (x2 y2 x5 y5 l3 l4 : F) : x2 * x2 + gA x5 l3 l4 * x2 + gC x5 l3 l4 (y2 - l3 * x2) (y5 - l4 * x5) - (l3 + l4) * y2 = x2 * x2 + x2 * x5 + x5 * x5 - l3 * (y2 + -y5) := by grind
theorem id_g3 (x1 y1 x2 y2 A G S l1 : F) (h : l1 * (x2 - x1) = y2 - y1) (e1 : x1 * x1 + A * x1 + G - S * y1 = 0) (e2 : x2 * x2 + A * x2 + G - S * y2 = 0) : (x2 - x1) * (A - S * l1 + (x1 + x2)) = 0 := by grind
theorem id_g4 (x1 y1 x2 A G S l1 : F) (e1 : x1 * x1 + A * x1 + G - S * y1 = 0) (e : A - S * l1 + (x1 + x2) = 0) : G - S * (y1 - l1 * x1) = x1 * x2 := by grind
theorem id_t5 (x1 y1 x5 y5 l3 l4 b : F) (h3 : l3 * (x5 - x1) = -y5 - y1) (h4 : l4 * (x5 - x1) = y5 - y1) (c1 : y1 * y1 = x1 * x1 * x1 + b) (c5 : y5 * y5 = x5 * x5 * x5 + b) :
    (x5 - x1) * (l3 * l4 * (x5 - x1)) = (x5 - x1) * -(x5 * x5 + x5 * x1 + x1 * x1) := by
  have e : (x5 - x1) * (l3 * l4 * (x5 - x1)) = (l3 * (x5 - x1)) * (l4 * (x5 - x1)) := by clear h3 h4 c1 c5; grind
  rw [e, h3, h4]
  clear e h3 h4; grind
theorem id_t6 (x1 y1 x5 y5 l1 l3 l4 : F) (h3 : l3 * (x5 - x1) = -y5 - y1) (h4 : l4 * (x5 - x1) = y5 - y1) (h1 : l1 * (y1 + y1) = x1 * x1 + x1 * x1 + x1 * x1) (e : l3 * l4 * (x5 - x1) = -(x5 * x5 + x5 * x1 + x1 * x1)) :
    (x5 - x1) * (gA x5 l3 l4 - (l3 + l4) * l1 + (x1 + x1)) = 0 := by
  have e2 : (x5 - x1) * (gA x5 l3 l4 - (l3 + l4) * l1 + (x1 + x1)) = x5 * (x5 - x1) + l3 * l4 * (x5 - x1) - (l3 * (x5 - x1) + l4 * (x5 - x1)) * l1 + (x1 + x1) * (x5 - x1) := by clear h3 h4 h1 e; grind
  rw [e2, e, h3, h4]
  clear e e2 h3 h4; grind
theorem id_m3 (l3 x2 y2 x5 : F) : y2 - l3 * x2 = -(l3 * (x2 - x5) - y2) - l3 * x5 := by grind
theorem id_m4 (l4 x1 y1 x5 y5 : F) (h : l4 * (x5 - x1) = y5 - y1) : y1 - l4 * x1 = y5 - l4 * x5 := by grind

theorem lemB (C : Cv F) {x1 y1 x2 y2 x3 y3 x5 y5 l1 l3 l4 : F} (c1 : y1 * y1 = x1 * x1 * x1 + C.b) (c2 : y2 * y2 = x2 * x2 * x2 + C.b) (a1 : Line l1 x1 y1 x2 y2)
    (a3 : Line l3 x2 y2 x3 y3) (h5 : x5 = l3 * l3 - x2 - x3) (h5' : y5 = l3 * (x2 - x5) - y2) (a4 : Line l4 x1 y1 x5 y5) (hx : x1 ≠ x2 ∨ (x1 = x2 ∧ y1 = y2 ∧ x5 ≠ x1)) :
    gA x5 l3 l4 - (l3 + l4) * l1 + (x1 + x2) = 0 ∧ gC x5 l3 l4 (y2 - l3 * x2) (y1 - l4 * x1) - (l3 + l4) * (y1 - l1 * x1) = x1 * x2 := by
  have a3' := line_third a3 h5 h5'
  have m3 : y2 - l3 * x2 = -y5 - l3 * x5 := by rw [h5']; exact id_m3 _ _ _ _
  have m4 := id_m4 _ _ _ _ _ a4.1
  have e1 : x1 * x1 + gA x5 l3 l4 * x1 + gC x5 l3 l4 (y2 - l3 * x2) (y1 - l4 * x1) - (l3 + l4) * y1 = 0 := by rw [m3, id_g1, a4.2]; exact sub_of rfl
  have e2 : x2 * x2 + gA x5 l3 l4 * x2 + gC x5 l3 l4 (y2 - l3 * x2) (y1 - l4 * x1) - (l3 + l4) * y2 = 0 := by rw [m4, id_g2, a3'.2]; exact sub_of rfl
  have key : gA x5 l3 l4 - (l3 + l4) * l1 + (x1 + x2) = 0 := by
    rcases hx with hx | ⟨rfl, rfl, hx⟩
    · exact (dom C (id_g3 _ _ _ _ _ _ _ _ a1.1 e1 e2)).resolve_left (sub_ne hx)
    · have c5 := sum_on c2 a3 h5 h5'
      have e5 := canc C (sub_ne (fun q => hx q.symm)) (id_t5 _ _ _ _ _ _ _ a3'.1 a4.1 c1 c5)
      exact (dom C (id_t6 _ _ _ _ _ _ _ a3'.1 a4.1 a1.2 e5)).resolve_left (sub_ne (fun q => hx q.symm))
  exact ⟨key, id_g4 _ _ _ _ _ _ _ e1 key⟩

theorem id_a1 (l3 l4 x2 x3 : F) : gA (l3 * l3 - x2 - x3) l3 l4 - (l3 + l4) * l3 + (x2 + x3) = 0 := by grind
theorem id_a2 (l3 l4 x5 y5 : F) : gC x5 l3 l4 (-y5 - l3 * x5) (y5 - l4 * x5) - (l3 + l4) * (-y5 - l3 * x5) = x5 * x5 + 2 * l3 * y5 + l3 * l3 * x5 := by grind
theorem id_a3 (l3 x2 x3 x5 y5 : F) (h5 : x5 = l3 * l3 - x2 - x3) (v : x2 * x3 + x2 * x5 + x3 * x5 = -(2 * l3 * (-y5 - l3 * x5))) : x5 * x5 + 2 * l3 * y5 + l3 * l3 * x5 = x2 * x3 := by
  have e : l3 * l3 = x5 + x2 + x3 := by clear v; grind
  have e2 : 2 * l3 * y5 = x2 * x3 + x2 * x5 + x3 * x5 - 2 * (l3 * l3) * x5 := by clear h5 e; grind
  rw [e2, e]; clear h5 v e e2; grind
theorem lemA {x1 y1 x2 y2 x3 y3 x5 y5 l3 l4 : F} (a3 : Line l3 x2 y2 x3 y3) (h5 : x5 = l3 * l3 - x2 - x3) (h5' : y5 = l3 * (x2 - x5) - y2) (a4 : Line l4 x1 y1 x5 y5) :
    gA x5 l3 l4 - (l3 + l4) * l3 + (x2 + x3) = 0 ∧ gC x5 l3 l4 (y2 - l3 * x2) (y1 - l4 * x1) - (l3 + l4) * (y2 - l3 * x2) = x2 * x3 := by
  have m3 : y2 - l3 * x2 = -y5 - l3 * x5 := by rw [h5']; exact id_m3 _ _ _ _
  have m4 := id_m4 _ _ _ _ _ a4.1
  have v := vieta2 a3 h5 m3.symm
  constructor
  · rw [h5]; exact id_a1 _ _ _ _
  · rw [m4, m3, id_a2]; exact id_a3 _ _ _ _ _ h5 v
end
end Mine
end

section
set_option linter.all false
namespace Mine
open Lean.Grind
section
variable {F : Type} [CommRing F] [DecidableEq F]

theorem id_h1 (A1 A2 S1 S2 l1 l3 u v : F) (i : A1 - S1 * l1 + u = 0) (ii : A2 - S2 * l1 + u = 0) (iii : A2 - S2 * l3 + v = 0) (iv : A1 - S1 * l3 + v = 0) : (S1 - S2) * (l1 - l3) = 0 := by grind
theorem id_h2 (G1 G2 S1 S2 n1 n3 u v : F) (i : G1 - S1 * n1 = u) (ii : G2 - S2 * n1 = u) (iii : G2 - S2 * n3 = v) (iv : G1 - S1 * n3 = v) : (S1 - S2) * (n1 - n3) = 0 := by grind
theorem id_h3 (A1 A2 S l1 u : F) (i : A1 - S * l1 + u = 0) (ii : A2 - S * l1 + u = 0) : A1 = A2 := by grind
theorem id_h4 (G1 G2 S n1 u : F) (i : G1 - S * n1 = u) (ii : G2 - S * n1 = u) : G1 = G2 := by grind
theorem id_x6 (l1 l2 x1 x2 x3 x4 : F) (h4 : x4 = l1 * l1 - x1 - x2) : l2 * l2 - x4 - x3 = (l1 + l2) * (l1 + l2) - 2 * gA x4 l1 l2 - x1 - x2 - x3 := by grind
theorem id_x7 (l3 l4 x1 x2 x3 x5 : F) (h5 : x5 = l3 * l3 - x2 - x3) : l4 * l4 - x1 - x5 = (l3 + l4) * (l3 + l4) - 2 * gA x5 l3 l4 - x1 - x2 - x3 := by grind
theorem id_e6 (x4 y4 x6 y6 l1 l2 : F) : x6 * x6 + gA x4 l1 l2 * x6 + gC x4 l1 l2 (-y4 - l1 * x4) (-y6 - l2 * x6) + (l1 + l2) * y6 = x4 * x4 + x4 * x6 + x6 * x6 - l2 * (y4 + -y6) := by grind
theorem id_y67 (x A G S y6 y7 : F) (e6 : x * x + A * x + G + S * y6 = 0) (e7 : x * x + A * x + G + S * y7 = 0) : S * (y6 - y7) = 0 := by grind
theorem id_q (x3 u v a b : F) (h1 : u + v = x3 + b) (h2 : u * v = x3 * b) : (u - x3) * (v - x3) = 0 := by
  have e : (u - x3) * (v - x3) = u * v - x3 * (u + v) + x3 * x3 := by clear h1 h2; grind
  rw [e, h1, h2]; clear e h1 h2; grind
theorem id_w1 (l x1 x2 x3 x4 x5 : F) (h4 : x4 = l * l - x1 - x2) (h5 : x5 = l * l - x2 - x3) : x1 + x4 = x3 + x5 := by grind
theorem id_w2 (x1 x2 x3 x4 x5 k : F) (v1 : x1 * x2 + x1 * x4 + x2 * x4 = k) (v2 : x2 * x3 + x2 * x5 + x3 * x5 = k) (h : x1 + x4 = x3 + x5) : x1 * x4 = x3 * x5 := by
  have e1 : x1 * x4 = k - x2 * (x1 + x4) := by clear v2 h; grind
  have e2 : x3 * x5 = k - x2 * (x3 + x5) := by clear v1 h e1; grind
  rw [e1, e2, h]
theorem id_w3 (l x1 y1 x4 n y3 : F) (hn : n = y1 - l * x1) (h3 : n = y3 - l * x4) : (l * (x1 - x4) - y1) + y3 = 0 := by grind
theorem id_w4 (l1 l2 x1 x2 x3 x4 : F) (h4 : x4 = l1 * l1 - x1 - x2) (hs : l1 + l2 = 0) : x1 + x2 = x3 + (l2 * l2 - x4 - x3) := by grind
theorem id_w5 (x1 x2 x3 x4 x6 k : F) (v1 : x1 * x2 + x1 * x4 + x2 * x4 = k) (v2 : x4 * x3 + x4 * x6 + x3 * x6 = k) (h : x1 + x2 = x3 + x6) : x1 * x2 = x3 * x6 := by
  have e1 : x1 * x2 = k - x4 * (x1 + x2) := by clear v2 h; grind
  have e2 : x3 * x6 = k - x4 * (x3 + x6) := by clear v1 h e1; grind
  rw [e1, e2, h]
theorem id_w6 (l1 l2 m1 m2 : F) (hs : l1 + l2 = 0) (hm : m1 + m2 = 0) : -(2 * l2 * m2) = -(2 * l1 * m1) := by
  have e1 : l2 = -l1 := by clear hm; grind
  have e2 : m2 = -m1 := by clear hs e1; grind
  subst e1 e2; clear hs hm; grind
theorem id_w7 (l1 l2 x4 y4 : F) (hs : l1 + l2 = 0) : (-y4 - l1 * x4) + (y4 - l2 * x4) = 0 := by
  have e1 : l2 = -l1 := by grind
  subst e1; clear hs; grind
theorem id_w8 (l1 l2 x2 y2 y3 : F) (hs : l1 + l2 = 0) (hm : (y2 - l1 * x2) + (y3 - l2 * x2) = 0) : y2 + y3 = 0 := by
  have e1 : l2 = -l1 := by clear hm; grind
  subst e1; clear hs; grind
theorem id_y4 (l1 x1 y1 x2 y2 x4 : F) (h : l1 * (x2 - x1) = y2 - y1) : l1 * (x1 - x4) - y1 = l1 * (x2 - x4) - y2 := by grind
theorem id_sw (l1 x1 x2 : F) : l1 * l1 - x1 - x2 = l1 * l1 - x2 - x1 := by grind
theorem id_ml (l x1 y1 x2 y2 : F) (h : l * (x2 - x1) = y2 - y1) : y1 - l * x1 = y2 - l * x2 := by grind
theorem id_m6 (l2 x4 y4 x6 : F) : y4 - l2 * x4 = -(l2 * (x4 - x6) - y4) - l2 * x6 := by grind

theorem id_mc (a b : F) : a * b = b * a := by grind
theorem same_y (C : Cv F) {x y1 y2 : F} (c1 : y1 * y1 = x * x * x + C.b) (c2 : y2 * y2 = x * x * x + C.b) (h : ¬ y1 + y2 = 0) : y1 = y2 :=
  (zero_of_sub ((dom C (id_s4 x y1 y2 C.b c1 c2)).resolve_left h)).symm

theorem assoc_gen (C : Cv F) {x1 y1 x2 y2 x3 y3 x4 y4 x5 y5 l1 l2 l3 l4 : F} (c1 : y1 * y1 = x1 * x1 * x1 + C.b) (c2 : y2 * y2 = x2 * x2 * x2 + C.b) (c3 : y3 * y3 = x3 * x3 * x3 + C.b)
    (a1 : Line l1 x1 y1 x2 y2) (a3 : Line l3 x2 y2 x3 y3) (h4 : x4 = l1 * l1 - x1 - x2) (h4' : y4 = l1 * (x1 - x4) - y1) (h5 : x5 = l3 * l3 - x2 - x3) (h5' : y5 = l3 * (x2 - x5) - y2)
    (a2 : Line l2 x4 y4 x3 y3) (a4 : Line l4 x1 y1 x5 y5) (n12 : ¬ (x1 = x2 ∧ y1 + y2 = 0)) (n23 : ¬ (x2 = x3 ∧ y2 + y3 = 0)) (n43 : ¬ (x4 = x3 ∧ y4 + y3 = 0)) (n15 : ¬ (x1 = x5 ∧ y1 + y5 = 0)) (n13 : x1 ≠ x3) :
    l2 * l2 - x4 - x3 = l4 * l4 - x1 - x5 ∧ l2 * (x4 - (l2 * l2 - x4 - x3)) - y4 = l4 * (x1 - (l4 * l4 - x1 - x5)) - y1 := by
  have c4 := sum_on c1 a1 h4 h4'
  have c5 := sum_on c2 a3 h5 h5'
  have h4s : x4 = l1 * l1 - x2 - x1 := h4.trans (id_sw _ _ _)
  have h4s' : y4 = l1 * (x2 - x4) - y2 := h4'.trans (id_y4 _ _ _ _ _ _ a1.1)
  have hx1 : x1 ≠ x2 ∨ (x1 = x2 ∧ y1 = y2 ∧ x5 ≠ x1) := by
    by_cases hx : x1 = x2
    · refine .inr ⟨hx, ?_, fun q => ?_⟩
      · exact same_y C c1 (hx ▸ c2) fun e => n12 ⟨hx, e⟩
      · have hy : y1 = y5 := same_y C c1 (q ▸ c5) fun e => n15 ⟨q.symm, e⟩
        have hy2 : y1 = y2 := same_y C c1 (hx ▸ c2) fun e => n12 ⟨hx, e⟩
        refine not_self C c2 a3 (by rw [← h5, q, hx]) ?_
        rw [← h5, ← h5', ← hy, hy2]; exact neg_z' _
    · exact .inl hx
  have hx3 : x3 ≠ x2 ∨ (x3 = x2 ∧ y3 = y2 ∧ x4 ≠ x3) := by
    by_cases hx : x3 = x2
    · have hy3 : y3 = y2 := same_y C c3 (hx ▸ c2) fun e => n23 ⟨hx.symm, (id_c3 _ _).trans e⟩
      refine .inr ⟨hx, hy3, fun q => ?_⟩
      have hy : y4 = y3 := same_y C c4 (q ▸ c3) fun e => n43 ⟨q, e⟩
      refine not_self C c2 (line_symm a1) (by rw [← h4s, q, hx]) ?_
      rw [← h4s, ← h4s', hy, hy3]; exact neg_z' _
    · exact .inl hx
  obtain ⟨b1, b2⟩ := lemB C c1 c2 a1 a3 h5 h5' a4 hx1
  obtain ⟨b3, b4⟩ := lemB C c3 c2 (line_symm a3) (line_symm a1) h4s h4s' (line_symm a2) hx3
  obtain ⟨d1, d2⟩ := lemA a3 h5 h5' a4
  obtain ⟨d3, d4⟩ := lemA (line_symm a1) h4s h4s' (line_symm a2)
  have n1 := id_ml _ _ _ _ _ a1.1
  have n3 := id_ml _ _ _ _ _ a3.1
  rw [n1] at b2
  rw [← n3] at b4
  rw [id_c3 x2 x1] at d3
  rw [id_c3 x3 x2] at b3
  have ex21 : x2 * x1 = x1 * x2 := id_mc _ _
  have ex32 : x3 * x2 = x2 * x3 := id_mc _ _
  rw [ex21] at d4
  rw [ex32] at b4
  have k1 := id_h1 _ _ _ _ _ _ _ _ d3 b1 d1 b3
  have k2 := id_h2 _ _ _ _ _ _ _ _ d4 b2 d2 b4
  by_cases hS : l1 + l2 = l3 + l4
  · rw [← hS] at b1 b2 d1 d2
    have eA := id_h3 _ _ _ _ _ d3 b1
    have eG := id_h4 _ _ _ _ _ d4 b2
    have ex : l2 * l2 - x4 - x3 = l4 * l4 - x1 - x5 := by
      rw [id_x6 _ _ _ _ _ _ h4, id_x7 _ _ _ _ _ _ h5, eA, hS]
    refine ⟨ex, ?_⟩
    have m1 : y2 - l1 * x2 = -y4 - l1 * x4 := by rw [h4s']; exact id_m3 _ _ _ _
    have m2 : y3 - l2 * x3 = y4 - l2 * x4 := (id_ml _ _ _ _ _ a2.1).symm
    have m3 : y2 - l3 * x2 = -y5 - l3 * x5 := by rw [h5']; exact id_m3 _ _ _ _
    by_cases hz : l1 + l2 = 0
    · exfalso
      have v1 := vieta2 a1 h4 rfl
      have v2 := vieta2 a2 rfl rfl
      have hm : (y2 - l1 * x2) + (y3 - l2 * x3) = 0 := by rw [m1, m2]; exact id_w7 _ _ _ _ hz
      rw [← m2, id_w6 l1 l2 (y2 - l1 * x2) (y3 - l2 * x3) hz hm, ← n1] at v2
      have s1 := id_w4 l1 l2 x1 x2 x3 x4 h4 hz
      have s2 := id_w5 _ _ _ _ _ _ v1 v2 s1
      have r := dom C (id_q x3 x1 x2 x1 _ s1 s2)
      rcases r with r | r
      · exact n13 (zero_of_sub r)
      · have e := zero_of_sub r
        rw [← e] at hm
        exact n23 ⟨e, id_w8 _ _ _ _ _ hz hm⟩
    · have t6 := line_third a2 rfl rfl
      have t7 := line_third (line_symm a4) (x3 := l4 * l4 - x1 - x5) (id_sw _ _ _) (y3 := l4 * (x1 - (l4 * l4 - x1 - x5)) - y1) (id_y4 _ _ _ _ _ _ a4.1)
      have e6 := id_e6 x4 y4 (l2 * l2 - x4 - x3) (l2 * (x4 - (l2 * l2 - x4 - x3)) - y4) l1 l2
      have e7 := id_e6 x5 y5 (l4 * l4 - x1 - x5) (l4 * (x1 - (l4 * l4 - x1 - x5)) - y1) l3 l4
      rw [t6.2, ← id_m6, ← m1, ← m2] at e6
      rw [t7.2, ← id_m6, ← m3, ← hS, ← ex, ← eA, ← eG] at e7
      have e6' := e6.trans (sub_of rfl)
      have e7' := e7.trans (sub_of rfl)
      have z := (dom C (id_y67 _ _ _ _ _ _ e6' e7')).resolve_left hz
      rw [ex] at z ⊢
      exact zero_of_sub z
  · exfalso
    have hS' : l1 + l2 - (l3 + l4) ≠ 0 := fun e => hS (zero_of_sub e)
    have el := zero_of_sub ((dom C k1).resolve_left hS')
    have en := zero_of_sub ((dom C k2).resolve_left hS')
    subst el
    have s1 := id_w1 _ _ _ _ _ _ h4 h5
    have v1 := vieta2 a1 h4 n1.symm
    have v2 := vieta2 a3 h5 rfl
    have s2 := id_w2 _ _ _ _ _ _ v1 v2 s1
    rcases dom C (id_q x3 x1 x4 x1 _ s1 s2) with r | r
    · exact n13 (zero_of_sub r)
    · have e := zero_of_sub r
      refine n43 ⟨e, ?_⟩
      rw [h4']
      exact id_w3 _ _ _ _ _ _ rfl (by rw [e, n1]; exact n3)
end
end Mine
end

section
set_option linter.all false
namespace Mine
open Lean.Grind
section
variable {F : Type} [CommRing F] [DecidableEq F]

theorem cancel2 (C : Cv F) {P Q : Pt F} (hP : On C P) (hQ : On C Q) : padd C P (padd C (pneg P) Q) = Q := by
  have e := cancel C (pneg_on C hP) hQ
  rwa [pneg_pneg] at e
theorem opp_eq {x1 y1 x2 y2 : F} (h : x1 = x2 ∧ y1 + y2 = 0) : Pt.aff x1 y1 = pneg (Pt.aff x2 y2) := by
  obtain ⟨rfl, h⟩ := h
  have e : y1 = -y2 := by grind
  rw [e]; rfl
theorem opp_eq' {x1 y1 x2 y2 : F} (h : x1 = x2 ∧ y1 + y2 = 0) : Pt.aff x2 y2 = pneg (Pt.aff x1 y1) :=
  opp_eq ⟨h.1.symm, (id_c3 _ _).trans h.2⟩

theorem as_12 (C : Cv F) {Q R : Pt F} (hQ : On C Q) (hR : On C R) : padd C (padd C (pneg Q) Q) R = padd C (pneg Q) (padd C Q R) := by
  rw [neg_padd, cancel C hQ hR]; rfl
theorem as_23 (C : Cv F) {P Q : Pt F} (hP : On C P) (hQ : On C Q) : padd C (padd C P Q) (pneg Q) = padd C P (padd C Q (pneg Q)) := by
  rw [padd_neg, padd_inf, padd_comm C (padd_on C hP hQ) (pneg_on C hQ), padd_comm C hP hQ, cancel C hQ hP]
theorem as_eq (C : Cv F) {P Q : Pt F} (hP : On C P) (hQ : On C Q) : padd C (padd C P Q) P = padd C P (padd C Q P) := by
  rw [padd_comm C (padd_on C hP hQ) hP, padd_comm C hQ hP]
theorem as_op (C : Cv F) {P Q : Pt F} (hP : On C P) (hQ : On C Q) : padd C (padd C P Q) (pneg P) = padd C P (padd C Q (pneg P)) := by
  rw [padd_comm C (padd_on C hP hQ) (pneg_on C hP), padd_comm C hQ (pneg_on C hP), cancel C hP hQ, cancel2 C hP hQ]
theorem as_s (C : Cv F) {P Q : Pt F} (hP : On C P) (hQ : On C Q) : padd C (padd C P Q) (pneg (padd C P Q)) = padd C P (padd C Q (pneg (padd C P Q))) := by
  rw [padd_neg, pneg_padd C hP hQ, padd_comm C (pneg_on C hP) (pneg_on C hQ), cancel2 C hQ (pneg_on C hP), padd_neg]
theorem as_s' (C : Cv F) {Q R : Pt F} (hQ : On C Q) (hR : On C R) : padd C (padd C (pneg (padd C Q R)) Q) R = padd C (pneg (padd C Q R)) (padd C Q R) := by
  rw [neg_padd, pneg_padd C hQ hR, padd_comm C (padd_on C (pneg_on C hQ) (pneg_on C hR)) hQ, cancel2 C hQ (pneg_on C hR), neg_padd]

theorem padd_assoc (C : Cv F) {P Q R : Pt F} (hP : On C P) (hQ : On C Q) (hR : On C R) : padd C (padd C P Q) R = padd C P (padd C Q R) := by
  cases P with
  | inf => rfl
  | aff x1 y1 =>
    cases Q with
    | inf => rfl
    | aff x2 y2 =>
      cases R with
      | inf => rw [padd_inf, padd_inf]
      | aff x3 y3 =>
        by_cases n12 : x1 = x2 ∧ y1 + y2 = 0
        · rw [opp_eq n12]; exact as_12 C hQ hR
        by_cases n23 : x2 = x3 ∧ y2 + y3 = 0
        · rw [opp_eq' n23]; exact as_23 C hP hQ
        have a1 := slope_line C hP hQ n12
        have a3 := slope_line C hQ hR n23
        generalize slope C x1 y1 x2 y2 = l1 at a1
        generalize slope C x2 y2 x3 y3 = l3 at a3
        have e1 := padd_line C hP hQ n12 a1
        have e3 := padd_line C hQ hR n23 a3
        have c4 := sum_on hP a1 rfl rfl
        have c5 := sum_on hQ a3 rfl rfl
        by_cases n43 : (l1 * l1 - x1 - x2) = x3 ∧ (l1 * (x1 - (l1 * l1 - x1 - x2)) - y1) + y3 = 0
        · rw [opp_eq' n43, ← e1]; exact as_s C hP hQ
        by_cases n15 : x1 = (l3 * l3 - x2 - x3) ∧ y1 + (l3 * (x2 - (l3 * l3 - x2 - x3)) - y2) = 0
        · rw [opp_eq n15, ← e3]; exact as_s' C hQ hR
        by_cases n13 : x1 = x3
        · by_cases hy : y1 + y3 = 0
          · rw [opp_eq' ⟨n13, hy⟩]; exact as_op C hP hQ
          · have e := same_y C hP (n13 ▸ hR) hy
            rw [← n13, ← e]; exact as_eq C hP hQ
        · have a2 := slope_line C c4 hR n43
          have a4 := slope_line C hP c5 n15
          generalize slope C (l1 * l1 - x1 - x2) (l1 * (x1 - (l1 * l1 - x1 - x2)) - y1) x3 y3 = l2 at a2
          generalize slope C x1 y1 (l3 * l3 - x2 - x3) (l3 * (x2 - (l3 * l3 - x2 - x3)) - y2) = l4 at a4
          obtain ⟨r1, r2⟩ := assoc_gen C hP hQ hR a1 a3 rfl rfl rfl rfl a2 a4 n12 n23 n43 n15 n13
          rw [e1, e3, padd_line C c4 hR n43 a2, padd_line C hP c5 n15 a4, r2]
          congr 1
end
end Mine
end

section
set_option linter.all false
namespace Mine
open Lean.Grind
section
variable {F : Type} [CommRing F] [DecidableEq F]

def smul (C : Cv F) : Nat → Pt F → Pt F
  | 0, _ => .inf
  | n + 1, P => padd C P (smul C n P)
theorem smul_on (C : Cv F) {P : Pt F} (hP : On C P) : ∀ n, On C (smul C n P)
  | 0 => True.intro
  | n + 1 => padd_on C hP (smul_on C hP n)
theorem smul_one (C : Cv F) (P : Pt F) : smul C 1 P = P := padd_inf C P
theorem smul_inf (C : Cv F) : ∀ n, smul C n .inf = .inf
  | 0 => rfl
  | n + 1 => smul_inf C n
theorem smul_add (C : Cv F) {P : Pt F} (hP : On C P) (m : Nat) : ∀ n, smul C (n + m) P = padd C (smul C n P) (smul C m P)
  | 0 => by rw [Nat.zero_add]; rfl
  | n + 1 => by
    rw [Nat.add_right_comm, smul, smul_add C hP m n, smul, padd_assoc C hP (smul_on C hP n) (smul_on C hP m)]
theorem smul_mul (C : Cv F) {P : Pt F} (hP : On C P) (m : Nat) : ∀ n, smul C (m * n) P = smul C n (smul C m P)
  | 0 => rfl
  | n + 1 => by rw [Nat.mul_succ, Nat.add_comm, smul_add C hP, smul_mul C hP m n]; rfl
def psum (C : Cv F) : List (Pt F) → Pt F
  | [] => .inf
  | P :: L => padd C P (psum C L)
theorem psum_on (C : Cv F) : ∀ {L : List (Pt F)}, (∀ P ∈ L, On C P) → On C (psum C L)
  | [], _ => True.intro
  | P :: L, h => padd_on C (h P (.head _)) (psum_on C fun Q hQ => h Q (.tail _ hQ))
theorem swap3 (C : Cv F) {P Q R : Pt F} (hP : On C P) (hQ : On C Q) (hR : On C R) : padd C P (padd C Q R) = padd C Q (padd C P R) := by
  rw [← padd_assoc C hP hQ hR, padd_comm C hP hQ, padd_assoc C hQ hP hR]
theorem psum_perm (C : Cv F) {L M : List (Pt F)} (h : L.Perm M) : (∀ P ∈ L, On C P) → psum C L = psum C M := by
  induction h with
  | nil => intro _; rfl
  | cons x _ ih => intro a; rw [psum, psum, ih fun Q hQ => a Q (.tail _ hQ)]
  | swap x y l =>
    intro a
    exact swap3 C (a _ (.head _)) (a _ (.tail _ (.head _))) (psum_on C fun Q hQ => a Q (.tail _ (.tail _ hQ)))
  | trans h1 _ ih1 ih2 => intro a; rw [ih1 a, ih2 fun Q hQ => a Q (h1.mem_iff.mpr hQ)]
theorem psum_map (C : Cv F) {P : Pt F} (hP : On C P) : ∀ {L : List (Pt F)}, (∀ Q ∈ L, On C Q) → psum C (L.map (padd C P)) = padd C (smul C L.length P) (psum C L)
  | [], _ => rfl
  | Q :: L, h => by
    have hQ := h Q (.head _)
    have hL : ∀ R ∈ L, On C R := fun R hR => h R (.tail _ hR)
    have hS := psum_on C hL
    have hn := smul_on C hP L.length
    rw [List.map_cons, psum, psum_map C hP hL, List.length_cons, psum, smul, padd_assoc C hP hQ (padd_on C hn hS), padd_assoc C hP hn (padd_on C hQ hS), swap3 C hQ hn hS]
theorem lagrange (C : Cv F) {L : List (Pt F)} (nd : L.Nodup) (all : ∀ P, On C P ↔ P ∈ L) {P : Pt F} (hP : On C P) : smul C L.length P = .inf := by
  have hL : ∀ Q ∈ L, On C Q := fun Q hQ => (all Q).mpr hQ
  have hn : (L.map (padd C P)).Nodup := by
    rw [List.Nodup, List.pairwise_map]
    refine List.Pairwise.imp_of_mem ?_ nd
    intro a b ha hb hab e
    apply hab
    rw [← cancel C hP (hL a ha), e, cancel C hP (hL b hb)]
  have hp : (L.map (padd C P)).Perm L := by
    rw [List.perm_ext_iff_of_nodup hn nd]
    intro Q
    rw [List.mem_map]
    constructor
    · rintro ⟨R, hR, rfl⟩; exact (all _).mp (padd_on C hP (hL R hR))
    · intro hQ; exact ⟨padd C (pneg P) Q, (all _).mp (padd_on C (pneg_on C hP) (hL Q hQ)), cancel2 C hP (hL Q hQ)⟩
  have e := psum_perm C hp fun Q hQ => hL Q (hp.mem_iff.mp hQ)
  rw [psum_map C hP hL] at e
  have hS := psum_on C hL
  have hk := smul_on C hP L.length
  rw [padd_comm C hk hS] at e
  have k := cancel C hS hk
  rw [e, neg_padd] at k
  exact k.symm
end
end Mine
end

section
set_option linter.all false
namespace Mine
open Lean.Grind
/-- a field of p members, its map from the whole numbers, and a root g of all its units -/
structure Fd (F : Type) [CommRing F] (p : Nat) where
  c : Int → F
  add : ∀ a b, c (a + b) = c a + c b
  mul : ∀ a b, c (a * b) = c a * c b
  one : c 1 = 1
  eq : ∀ a b, c a = c b ↔ a % (p : Int) = b % (p : Int)
  surj : ∀ x, ∃ a : Nat, a < p ∧ c a = x
  seven : 7 ≤ p
  twelve : p % 12 = 7
  g : Nat
  gen : ∀ a : Nat, 0 < a → a < p → ∃ e, g ^ e % p = a
  ord : g ^ (p - 1) % p = 1

section
variable {F : Type} [CommRing F] [DecidableEq F] {p : Nat} (f : Fd F p)
theorem id_z0 (a : F) (h : a = a + a) : a = 0 := by grind
theorem id_z1 (a b : F) (h : 0 = a + b) : a = -b := by grind
theorem id_z2 (a b : F) : a + -b = a - b := by grind
theorem id_z3 : (1 : F) + 1 = 2 := by grind
theorem id_z4 : (2 : F) + 1 = 3 := by grind
theorem id_z5 : (2 : F) + 2 = 4 := by grind
theorem id_z6 : (4 : F) + 4 = 8 := by grind
include f
theorem Fd.zero : f.c 0 = 0 := id_z0 _ (by rw [← f.add]; rfl)
theorem Fd.neg (a : Int) : f.c (-a) = - f.c a := id_z1 _ _ (by rw [← f.add, ← f.zero, Int.add_left_neg])
theorem Fd.sub (a b : Int) : f.c (a - b) = f.c a - f.c b := by rw [Int.sub_eq_add_neg, f.add, f.neg, id_z2]
theorem Fd.two : f.c 2 = 2 := by have h : f.c 2 = f.c 1 + f.c 1 := f.add 1 1
                                 rw [h, f.one, id_z3]
theorem Fd.three : f.c 3 = 3 := by have h : f.c 3 = f.c 2 + f.c 1 := f.add 2 1
                                   rw [h, f.one, f.two, id_z4]
theorem Fd.four : f.c 4 = 4 := by have h : f.c 4 = f.c 2 + f.c 2 := f.add 2 2
                                  rw [h, f.two, id_z5]
theorem Fd.eight : f.c 8 = 8 := by have h : f.c 8 = f.c 4 + f.c 4 := f.add 4 4
                                   rw [h, f.four, id_z6]
theorem Fd.mod (a : Int) : f.c (a % p) = f.c a := (f.eq _ _).mpr (Int.emod_emod_of_dvd _ (Int.dvd_refl _))
theorem Fd.eq0 (a : Int) : f.c a = 0 ↔ a % p = 0 := by rw [← f.zero, f.eq]; simp
omit f in
theorem pow_s (a : F) (n : Nat) : a ^ (n + 1) = a ^ n * a := Semiring.pow_succ a n
omit f in
theorem pow_0 (a : F) : a ^ 0 = 1 := Semiring.pow_zero a
omit f in
theorem pow_m (a : F) (m : Nat) : ∀ n, a ^ (m * n) = (a ^ m) ^ n
  | 0 => by rw [Nat.mul_zero, pow_0, pow_0]
  | n + 1 => by rw [Nat.mul_succ, Semiring.pow_add, pow_m a m n, pow_s]
omit f in
theorem pow_1 : ∀ n : Nat, (1 : F) ^ n = 1 := Semiring.one_pow
theorem Fd.pow (a : Int) : ∀ n : Nat, f.c (a ^ n) = f.c a ^ n
  | 0 => by rw [pow_0 (f.c a), Int.pow_zero]; exact f.one
  | n + 1 => by rw [pow_s (f.c a), ← Fd.pow a n, ← f.mul, Int.pow_succ]
theorem Fd.powN (a n : Nat) : f.c ((a ^ n % p : Nat) : Int) = f.c a ^ n := by rw [Int.natCast_emod, f.mod, Int.natCast_pow, f.pow]
theorem Fd.root {x : F} (h : x ≠ 0) : ∃ e : Nat, x = f.c f.g ^ e := by
  obtain ⟨a, ha, rfl⟩ := f.surj x
  have h0 : 0 < a := Nat.pos_of_ne_zero fun e => h (by rw [e]; exact f.zero)
  obtain ⟨e, he⟩ := f.gen a h0 ha
  exact ⟨e, by rw [← he, f.powN]⟩
theorem Fd.gone : f.c f.g ^ (p - 1) = 1 := by rw [← f.powN, f.ord]; exact f.one
theorem Fd.fermat {x : F} (h : x ≠ 0) : x ^ (p - 1) = 1 := by
  obtain ⟨e, rfl⟩ := f.root h
  rw [← pow_m, Nat.mul_comm, pow_m, f.gone, pow_1]
theorem Fd.inv {x : F} (h : x ≠ 0) : x * x ^ (p - 2) = 1 := by
  have e := f.fermat h
  have q : p - 1 = (p - 2) + 1 := by have := f.seven; omega
  rw [q, pow_s] at e
  rw [← e]; exact id_mc _ _
theorem Fd.small {a : Nat} (h0 : 0 < a) (h : a < p) : f.c a ≠ 0 := by
  intro e
  rw [f.eq0] at e
  have : ((a % p : Nat) : Int) = 0 := by rw [Int.natCast_emod]; exact e
  rw [Nat.mod_eq_of_lt h] at this; omega
theorem Fd.two_ne : (2 : F) ≠ 0 := by rw [← f.two]; exact f.small (a := 2) (by decide) (by have := f.seven; omega)
theorem Fd.three_ne : (3 : F) ≠ 0 := by rw [← f.three]; exact f.small (a := 3) (by decide) (by have := f.seven; omega)
/-- the curve y^2 = x^3 + b over the field -/
def Fd.cv (b : F) (h : b ≠ 0) : Cv F := { inv := fun x => x ^ (p - 2), hinv := fun _ => f.inv, b := b, two := f.two_ne, three := f.three_ne, hb := h }
theorem Fd.inj {a b : Nat} (ha : a < p) (hb : b < p) (h : f.c a = f.c b) : a = b := by
  have e := (f.eq _ _).mp h
  rw [← Int.natCast_emod, ← Int.natCast_emod, Nat.mod_eq_of_lt ha, Nat.mod_eq_of_lt hb] at e
  exact Int.ofNat.inj e
theorem Fd.dom {a b : F} (h : a * b = 0) : a = 0 ∨ b = 0 := Mine.dom (f.cv 1 (by rw [← f.one]; exact f.small (a := 1) (by decide) (by have := f.seven; omega))) h
theorem Fd.one_ne : (1 : F) ≠ 0 := by rw [← f.one]; exact f.small (a := 1) (by decide) (by have := f.seven; omega)
theorem Fd.pow_ne {a : F} (h : a ≠ 0) : ∀ n : Nat, a ^ n ≠ 0
  | 0 => by rw [pow_0]; exact f.one_ne
  | n + 1 => by rw [pow_s]; exact fun e => (f.dom e).elim (Fd.pow_ne h n) h
theorem Fd.g_ne : f.c f.g ≠ 0 := by
  intro e
  have h := f.gone
  have q : p - 1 = (p - 2) + 1 := by have := f.seven; omega
  rw [e, q, pow_s, mul_z] at h
  exact f.one_ne h.symm
end
end Mine
end

section
set_option linter.all false
namespace Mine
open Lean.Grind
/-- trees: cheap folds over lo, lo + 1, .., lo + 2^k - 1 -/
noncomputable def orT (h : Nat → Nat) (k : Nat) : Nat → Nat := Nat.rec (fun lo => Nat.shiftLeft 1 (h lo)) (fun k ih lo => Nat.lor (ih lo) (ih (Nat.add lo (Nat.pow 2 k)))) k
noncomputable def sumT (h : Nat → Nat) (k : Nat) : Nat → Nat := Nat.rec (fun lo => h lo) (fun k ih lo => Nat.add (ih lo) (ih (Nat.add lo (Nat.pow 2 k)))) k
theorem orT_bit (h : Nat → Nat) (b : Nat) : ∀ k lo, (orT h k lo).testBit b = true ↔ ∃ e, lo ≤ e ∧ e < lo + 2 ^ k ∧ h e = b
  | 0, lo => by
    have e1 : orT h 0 lo = 2 ^ h lo := by show 1 <<< h lo = _; rw [Nat.shiftLeft_eq, Nat.one_mul]
    rw [e1, Nat.testBit_two_pow]
    constructor
    · intro e; exact ⟨lo, Nat.le_refl _, by omega, by simpa using e⟩
    · rintro ⟨e, h1, h2, h3⟩
      have : e = lo := by omega
      subst this; simpa using h3
  | k + 1, lo => by
    have e1 : orT h (k + 1) lo = orT h k lo ||| orT h k (lo + 2 ^ k) := rfl
    rw [e1, Nat.testBit_or, Bool.or_eq_true, orT_bit h b k lo, orT_bit h b k (lo + 2 ^ k), Nat.pow_succ]
    constructor
    · rintro (⟨e, h1, h2, h3⟩ | ⟨e, h1, h2, h3⟩)
      · exact ⟨e, h1, by omega, h3⟩
      · exact ⟨e, by omega, by omega, h3⟩
    · rintro ⟨e, h1, h2, h3⟩
      by_cases q : e < lo + 2 ^ k
      · exact .inl ⟨e, h1, q, h3⟩
      · exact .inr ⟨e, by omega, by omega, h3⟩
theorem sumT_eq (h : Nat → Nat) : ∀ k lo, sumT h k lo = ((List.range' lo (2 ^ k)).map h).sum
  | 0, lo => by show h lo = _; simp
  | k + 1, lo => by
    have e1 : sumT h (k + 1) lo = sumT h k lo + sumT h k (lo + 2 ^ k) := rfl
    rw [e1, sumT_eq h k lo, sumT_eq h k (lo + 2 ^ k), ← List.sum_append, ← List.map_append]
    have e2 := List.range'_append (s := lo) (m := 2 ^ k) (n := 2 ^ k) (step := 1)
    rw [Nat.one_mul] at e2
    rw [e2, ← Nat.two_mul, Nat.pow_succ, Nat.mul_comm]

def leafd (S d : Nat) : Nat := Nat.sub (Nat.mul 2 (Nat.mod (Nat.shiftRight S d) 2)) (Nat.sub 1 d)
/-- how many y lie over x -/
def leaf (p b S x : Nat) : Nat := Nat.mul (leafd S (Nat.mod (Nat.add (Nat.mul (Nat.mul x x) x) b) p)) (Nat.sub 1 (Nat.sub (Nat.add x 1) p))
def sqp (p y : Nat) : Nat := Nat.mod (Nat.mul y y) p
def pwp (g p e : Nat) : Nat := Nat.mod (Nat.pow g e) p

def rts (p d : Nat) : List Nat := (List.range p).filter fun y => y * y % p == d
theorem mem_rts {p d y : Nat} : y ∈ rts p d ↔ y < p ∧ y * y % p = d := by
  unfold rts; rw [List.mem_filter, List.mem_range]; simp
theorem nodup_rts (p d : Nat) : (rts p d).Nodup := List.Pairwise.filter _ List.nodup_range

section
variable {F : Type} [CommRing F] [DecidableEq F] {p : Nat} (f : Fd F p)
theorem id_sq (a b : F) (h : a * a = b * b) : (a - b) * (a + b) = 0 := by grind
theorem id_sq2 (a b : F) (h : a + b = 0) : a = -b := by grind
theorem id_sq3 (a : F) : -a * -a = a * a := by grind
theorem id_sq4 (a : F) (h : a = -a) : 2 * a = 0 := by grind
include f
theorem Fd.sq_iff {y d : Nat} (hd : d < p) : y * y % p = d ↔ f.c y * f.c y = f.c d := by
  rw [← f.mul, f.eq, ← Int.natCast_mul, ← Int.natCast_emod, ← Int.natCast_emod, Nat.mod_eq_of_lt hd]; exact Int.ofNat_inj.symm
theorem Fd.cp : f.c p = 0 := by rw [f.eq0]; exact Int.emod_self
theorem Fd.opp {y : Nat} (h : y < p) : f.c ((p - y : Nat) : Int) = - f.c y := by
  rw [Int.ofNat_sub (Nat.le_of_lt h), f.sub, f.cp]; grind
theorem Fd.rts0 : (rts p 0).length = 1 := by
  have h7 := f.seven
  have e : (rts p 0).Perm [0] := by
    rw [List.perm_ext_iff_of_nodup (nodup_rts p 0) (List.nodup_cons.mpr ⟨by simp, List.nodup_nil⟩)]
    intro y
    rw [mem_rts, List.mem_singleton]
    constructor
    · rintro ⟨h1, h2⟩
      rw [f.sq_iff (by omega)] at h2
      have h3 : f.c y = 0 := by
        have h4 : f.c y * f.c y = 0 := by rw [h2]; exact f.zero
        exact (f.dom h4).elim id id
      exact f.inj h1 (by omega) (h3.trans f.zero.symm)
    · rintro rfl; exact ⟨by omega, by simp⟩
  exact e.length_eq
theorem Fd.rts2 {d y0 : Nat} (hd : d < p) (hd0 : d ≠ 0) (h0 : y0 * y0 % p = d) : (rts p d).length = 2 := by
  have h7 := f.seven
  have hy : (y0 % p) * (y0 % p) % p = d := by rw [← h0, ← Nat.mul_mod]
  generalize hz : y0 % p = z at hy
  have hzp : z < p := by rw [← hz]; exact Nat.mod_lt _ (by omega)
  have hz0 : z ≠ 0 := by rintro rfl; simp at hy; omega
  have hcz := (f.sq_iff hd).mp hy
  have hne : z ≠ p - z := by
    intro e
    have e2 : f.c z = - f.c z := by rw [← f.opp hzp, ← e]
    exact f.small (Nat.pos_of_ne_zero hz0) hzp ((f.dom (id_sq4 _ e2)).resolve_left f.two_ne)
  have e : (rts p d).Perm [z, p - z] := by
    rw [List.perm_ext_iff_of_nodup (nodup_rts p d) (List.nodup_cons.mpr ⟨by simpa using hne, List.nodup_cons.mpr ⟨by simp, List.nodup_nil⟩⟩)]
    intro y
    rw [mem_rts, List.mem_cons, List.mem_singleton]
    constructor
    · rintro ⟨h1, h2⟩
      rw [f.sq_iff hd, ← hcz] at h2
      rcases f.dom (id_sq _ _ h2) with r | r
      · exact .inl (f.inj h1 hzp (zero_of_sub r))
      · exact .inr (f.inj h1 (by omega) ((id_sq2 _ _ r).trans (f.opp hzp).symm))
    · rintro (rfl | rfl)
      · exact ⟨hzp, hy⟩
      · exact ⟨by omega, by rw [f.sq_iff hd, f.opp hzp, id_sq3, hcz]⟩
  exact e.length_eq
theorem Fd.rts_len {d k : Nat} (hd : d < p) (hk : p ≤ 2 ^ k) : (rts p d).length = leafd (orT (sqp p) k 0) d := by
  have h7 := f.seven
  have bit := orT_bit (sqp p) d k 0
  have sh : leafd (orT (sqp p) k 0) d = 2 * ((orT (sqp p) k 0 >>> d) % 2) - (1 - d) := rfl
  have tb : (orT (sqp p) k 0).testBit d = decide ((orT (sqp p) k 0 >>> d) % 2 = 1) := by
    rw [Nat.testBit_eq_decide_div_mod_eq, Nat.shiftRight_eq_div_pow]
  rw [sh]
  by_cases h : ∃ y, y * y % p = d
  · have : (orT (sqp p) k 0).testBit d = true := by
      rw [bit]
      obtain ⟨y, hy⟩ := h
      have hm : y % p < p := Nat.mod_lt _ (by omega)
      exact ⟨y % p, Nat.zero_le _, by omega, by show (y % p) * (y % p) % p = d; rw [← hy, ← Nat.mul_mod]⟩
    rw [tb, decide_eq_true_eq] at this
    rw [this]
    by_cases hd0 : d = 0
    · subst hd0; rw [f.rts0]
    · obtain ⟨y, hy⟩ := h
      rw [f.rts2 hd hd0 hy]; omega
  · have : ¬ (orT (sqp p) k 0).testBit d = true := by
      rw [bit]; rintro ⟨y, _, _, hy⟩; exact h ⟨y, hy⟩
    rw [tb, decide_eq_true_eq] at this
    have e0 : orT (sqp p) k 0 >>> d % 2 = 0 := by omega
    have d0 : d ≠ 0 := by rintro rfl; exact h ⟨0, by simp⟩
    rw [e0]
    have : rts p d = [] := List.eq_nil_iff_forall_not_mem.mpr fun y hy => h ⟨y, (mem_rts.mp hy).2⟩
    rw [this]; simp
end
end Mine
end

section
set_option linter.all false
namespace Mine
open Lean.Grind
section
variable {F : Type} [CommRing F] [DecidableEq F] {p : Nat}
theorem id_p1 (t x y b : F) (h : y * y = x * x * x + b) : (t * t * t * y) * (t * t * t * y) = (t * t * x) * (t * t * x) * (t * t * x) + b * (t * t * t * t * t * t) := by
  have e : (t * t * t * y) * (t * t * t * y) = (t * t * t * t * t * t) * (y * y) := by clear h; grind
  rw [e, h]; clear e h; grind
theorem id_p2 (t u x : F) (h : t * u = 1) : t * t * (u * u * x) = x := by
  have e : t * t * (u * u * x) = (t * u) * (t * u) * x := by clear h; grind
  rw [e, h]; grind
theorem id_p3 (t u x : F) (h : t * u = 1) : t * t * t * (u * u * u * x) = x := by
  have e : t * t * t * (u * u * u * x) = (t * u) * (t * u) * (t * u) * x := by clear h; grind
  rw [e, h]; grind
theorem id_p4 (t u b : F) (h : t * u = 1) : b * (t * t * t * t * t * t) * (u * u * u * u * u * u) = b := by
  have e : b * (t * t * t * t * t * t) * (u * u * u * u * u * u) = b * (t * u) * (t * u) * (t * u) * (t * u) * (t * u) * (t * u) := by clear h; grind
  rw [e, h]; grind
theorem sum_zero : ∀ {L : List Nat}, (∀ v ∈ L, v = 0) → L.sum = 0
  | [], _ => rfl
  | a :: L, h => by rw [List.sum_cons, h a (.head _), sum_zero fun v hv => h v (.tail _ hv)]
def scale (t : F) : Pt F → Pt F
  | .inf => .inf
  | .aff x y => .aff (t * t * x) (t * t * t * y)
theorem scale_scale {t u : F} (h : t * u = 1) (P : Pt F) : scale t (scale u P) = P := by
  cases P with
  | inf => rfl
  | aff x y => show Pt.aff _ _ = _; rw [id_p2 _ _ _ h, id_p3 _ _ _ h]

variable (f : Fd F p)
include f
def Fd.pts (b : Nat) : List (Pt F) := .inf :: (List.range p).flatMap fun x => (rts p ((x * x * x + b) % p)).map fun (y : Nat) => .aff (f.c x) (f.c y)
theorem Fd.cubic (x b : Nat) : f.c (((x * x * x + b) % p : Nat) : Int) = f.c x * f.c x * f.c x + f.c b := by
  rw [Int.natCast_emod, f.mod, Int.natCast_add, f.add, Int.natCast_mul, Int.natCast_mul, f.mul, f.mul]
theorem Fd.pos : 0 < p := by have := f.seven; omega
theorem Fd.mem_pts {b : Nat} {x y : F} : Pt.aff x y ∈ f.pts b ↔ y * y = x * x * x + f.c b := by
  unfold Fd.pts
  rw [List.mem_cons, List.mem_flatMap]
  constructor
  · rintro (h | ⟨a, ha, h⟩)
    · cases h
    · rw [List.mem_map] at h
      obtain ⟨e, he, h⟩ := h
      injection h with h1 h2
      rw [mem_rts, f.sq_iff (Nat.mod_lt _ f.pos), f.cubic] at he
      rw [← h1, ← h2]; exact he.2
  · intro h
    obtain ⟨a, ha, rfl⟩ := f.surj x
    obtain ⟨e, he, rfl⟩ := f.surj y
    refine .inr ⟨a, List.mem_range.mpr ha, List.mem_map.mpr ⟨e, ?_, rfl⟩⟩
    rw [mem_rts, f.sq_iff (Nat.mod_lt _ f.pos), f.cubic]
    exact ⟨he, h⟩
theorem Fd.nodup_pts (b : Nat) : (f.pts b).Nodup := by
  unfold Fd.pts
  rw [List.nodup_cons]
  constructor
  · rw [List.mem_flatMap]
    rintro ⟨a, _, h⟩
    rw [List.mem_map] at h
    obtain ⟨_, _, h⟩ := h
    cases h
  · rw [List.Nodup, List.pairwise_flatMap]
    constructor
    · intro a _
      rw [List.pairwise_map]
      refine List.Pairwise.imp_of_mem ?_ (nodup_rts p _)
      intro y z hy hz hyz e
      injection e with _ e
      exact hyz (f.inj (mem_rts.mp hy).1 (mem_rts.mp hz).1 e)
    · refine List.Pairwise.imp_of_mem ?_ List.nodup_range
      intro a e ha he hae u hu v hv q
      rw [List.mem_map] at hu hv
      obtain ⟨_, _, hu⟩ := hu
      obtain ⟨_, _, hv⟩ := hv
      rw [← hu, ← hv] at q
      injection q with q _
      exact hae (f.inj (List.mem_range.mp ha) (List.mem_range.mp he) q)
theorem Fd.len_pts {b k : Nat} (hk : p ≤ 2 ^ k) : (f.pts b).length = 1 + sumT (leaf p b (orT (sqp p) k 0)) k 0 := by
  unfold Fd.pts
  rw [List.length_cons, List.length_flatMap, Nat.add_comm, sumT_eq]
  congr 1
  have e2 := List.range'_append (s := 0) (m := p) (n := 2 ^ k - p) (step := 1)
  have e3 : p + (2 ^ k - p) = 2 ^ k := by omega
  rw [e3] at e2
  rw [← e2, List.map_append, List.sum_append]
  have z : ((List.range' (0 + 1 * p) (2 ^ k - p)).map (leaf p b (orT (sqp p) k 0))).sum = 0 := by
    apply sum_zero
    intro v hv
    rw [List.mem_map] at hv
    obtain ⟨x, hx, rfl⟩ := hv
    rw [List.mem_range'_1] at hx
    show _ * (1 - (x + 1 - p)) = 0
    have : 1 - (x + 1 - p) = 0 := by omega
    rw [this, Nat.mul_zero]
  rw [z, Nat.add_zero, ← List.range_eq_range']
  congr 1
  apply List.map_congr_left
  intro x hx
  rw [List.mem_range] at hx
  rw [List.length_map, f.rts_len (Nat.mod_lt _ f.pos) hk]
  show _ = leafd (orT (sqp p) k 0) ((x * x * x + b) % p) * (1 - (x + 1 - p))
  have : 1 - (x + 1 - p) = 1 := by omega
  rw [this, Nat.mul_one]

/-- Lagrange on a curve that is a twist of a counted one -/
theorem Fd.kills {b k N : Nat} {t : F} (ht : t ≠ 0) (hk : p ≤ 2 ^ k) (hN : 1 + sumT (leaf p b (orT (sqp p) k 0)) k 0 = N) (C : Cv F) (hC : C.b = f.c b * (t * t * t * t * t * t)) :
    (∀ P, On C P → smul C N P = .inf) ∧ (2 ≤ N → ∃ x y, y * y = x * x * x + C.b) := by
  have hu := f.inv ht
  generalize t ^ (p - 2) = u at hu
  have hu' : u * t = 1 := (id_mc _ _).trans hu
  have nd : ((f.pts b).map (scale t)).Nodup := by
    rw [List.Nodup, List.pairwise_map]
    refine List.Pairwise.imp ?_ (f.nodup_pts b)
    intro P Q h e
    apply h
    rw [← scale_scale hu' P, e, scale_scale hu']
  have all : ∀ P, On C P ↔ P ∈ (f.pts b).map (scale t) := by
    intro P
    rw [List.mem_map]
    constructor
    · intro h
      refine ⟨scale u P, ?_, scale_scale hu P⟩
      cases P with
      | inf => exact .head _
      | aff x y =>
        refine f.mem_pts.mpr ?_
        have e := id_p1 u x y C.b h
        rw [hC, id_p4 _ _ _ hu] at e
        exact e
    · rintro ⟨Q, hQ, rfl⟩
      cases Q with
      | inf => exact True.intro
      | aff x y =>
        show _ * _ = _ + C.b
        rw [hC]; exact id_p1 t x y _ (f.mem_pts.mp hQ)
  have len : ((f.pts b).map (scale t)).length = N := by rw [List.length_map, f.len_pts hk, hN]
  refine ⟨fun P hP => ?_, fun h2 => ?_⟩
  · rw [← len]; exact lagrange C nd all hP
  · match h : (f.pts b).map (scale t) with
    | [] => rw [h] at len; rw [← len] at h2; simp at h2
    | [_] => rw [h] at len; rw [← len] at h2; simp at h2
    | P :: Q :: L =>
      have hP : On C P := (all P).mpr (by rw [h]; exact .head _)
      have hQ : On C Q := (all Q).mpr (by rw [h]; exact .tail _ (.head _))
      cases P with
      | aff x y => exact ⟨x, y, hP⟩
      | inf =>
        cases Q with
        | aff x y => exact ⟨x, y, hQ⟩
        | inf => rw [h] at nd; exact absurd (.head _) (List.nodup_cons.mp nd).1
end
end Mine
end

section
set_option linter.all false
namespace Mine
open Lean.Grind
section
variable {F : Type} [CommRing F]
/-- doubling in the plane's homogeneous form -/
theorem pr_d1 (l x y z W S : F) (h : l * (y + y) = x * x + x * x + x * x) (hW : W = x * z * 3 * (x * z)) (hS : S = y * z * z) : W = 2 * l * S := by
  have e : W = (x * x + x * x + x * x) * (z * z) := by subst hW; clear h hS; grind
  rw [e, ← h, hS]; clear h hW hS e; grind
theorem pr_d2 (x y z S : F) (hS : S = y * z * z) : x * z * (y * z) * S = x * (S * S) := by
  have e : x * z * (y * z) = x * (y * z * z) := by clear hS; grind
  rw [e, ← hS]; clear hS e; grind
theorem pr_d3 (l x S : F) : 2 * l * S * (2 * l * S) - x * (S * S) * 8 = 4 * (S * S) * (l * l - x - x) := by grind
theorem pr_d4 (S x3 : F) : 4 * (S * S) * x3 * 2 * S = x3 * (S * 8 * (S * S)) := by grind
theorem pr_d5 (l x y z S x3 : F) (hS : S = y * z * z) : 2 * l * S * (x * (S * S) * 4 - 4 * (S * S) * x3) - y * z * 8 * (y * z) * (S * S) = (l * (x - x3) - y) * (S * 8 * (S * S)) := by
  have e : y * z * 8 * (y * z) = 8 * y * (y * z * z) := by clear hS; grind
  rw [e, ← hS]; clear hS e; grind
/-- adding -/
theorem pr_a1 (l x1 y1 z1 x2 y2 z2 w U V : F) (h : l * (x2 - x1) = y2 - y1) (hw : w = z1 * z2) (hU : U = y2 * z2 * z1 - y1 * z1 * z2) (hV : V = x2 * z2 * z1 - x1 * z1 * z2) : U = l * V ∧ V = (x2 - x1) * w := by
  subst hw hU hV
  constructor
  · have e : y2 * z2 * z1 - y1 * z1 * z2 = (y2 - y1) * (z1 * z2) := by clear h; grind
    rw [e, ← h]; clear h e; grind
  · clear h; grind
theorem pr_a2 (l x1 x2 w V : F) (hV : V = (x2 - x1) * w) : l * V * (l * V) * w - V * (V * V) - V * V * (x1 * w) * 2 = V * V * w * (l * l - x1 - x2) := by
  have e : V * (V * V) = V * V * ((x2 - x1) * w) := by rw [← hV]; clear hV; grind
  rw [e]; clear hV e; grind
theorem pr_a3 (V w x3 : F) : V * (V * V * w * x3) = x3 * (V * (V * V) * w) := by grind
theorem pr_a4 (l x1 y1 V w x3 : F) : l * V * (V * V * (x1 * w) - V * V * w * x3) - V * (V * V) * (y1 * w) = (l * (x1 - x3) - y1) * (V * (V * V) * w) := by grind
theorem pr_w (x z1 z2 : F) : x * z1 * z2 = x * (z1 * z2) := by grind
theorem pr_e (x z z' : F) : x * z * z' = x * z' * z := by grind
theorem pr_0 (y z : F) (h : y = 0) : y * z * z = 0 := by grind
theorem pr_2 (y : F) (h : y + y = 0) : 2 * y = 0 := by grind
theorem pr_z (S : F) (h : S = 0) : S * 8 * (S * S) = 0 := by grind
theorem pr_n (y z : F) : -(y * z) = -y * z := by grind
theorem pr_8 (S : F) : S * 8 * (S * S) = 2 * S * (2 * S) * (2 * S) := by grind
theorem pr_s (x z y : F) (h : y - x - z = 0) : y = x + z := by grind
end
end Mine
end

section
set_option linter.all false
namespace Mine
open Lean.Grind
section
variable {F : Type} [CommRing F] [DecidableEq F] {p : Nat} (f : Fd F p)

/-- the triple t stands for the point P -/
def Rep (t : T3) : Pt F → Prop
  | .inf => t.2.2 = 0
  | .aff x y => f.c t.2.2 ≠ 0 ∧ f.c t.1 = x * f.c t.2.2 ∧ f.c t.2.1 = y * f.c t.2.2
theorem Rep.z0 {t : T3} (h : Rep f t .inf) : t.2.2 = 0 := h
theorem Rep.zn {t : T3} {x y : F} (h : Rep f t (.aff x y)) : t.2.2 ≠ 0 := fun e => h.1 (by rw [e]; exact f.zero)
theorem rep_same {t t' : T3} {P : Pt F} (h : Rep f t P) (h' : Rep f t' P) : (t.2.2 = 0 ↔ t'.2.2 = 0) ∧ (t'.2.2 ≠ 0 → eqF p t t') := by
  cases P with
  | inf => exact ⟨⟨fun _ => h', fun _ => h⟩, fun n => absurd h' n⟩
  | aff x y =>
    refine ⟨⟨fun e => absurd e (Rep.zn f h), fun e => absurd e (Rep.zn f h')⟩, fun _ => ?_⟩
    obtain ⟨_, hx, hy⟩ := h
    obtain ⟨_, hx', hy'⟩ := h'
    unfold eqF
    rw [← f.eq, ← f.eq, f.mul, f.mul, f.mul, f.mul, hx, hy, hx', hy']
    exact ⟨pr_e _ _ _, pr_e _ _ _⟩
theorem rep_neg {t : T3} {P : Pt F} (h : Rep f t P) : Rep f (negF p t) (pneg P) := by
  cases P with
  | inf => exact h
  | aff x y =>
    refine ⟨h.1, h.2.1, ?_⟩
    show f.c (-t.2.1 % p) = _
    rw [f.mod, f.neg, h.2.2]; exact pr_n _ _

theorem dbl_1 (t : T3) : f.c (dblF p t).1 = (f.c t.1 * 3 * f.c t.1 * (f.c t.1 * 3 * f.c t.1) - f.c t.1 * f.c t.2.1 * (f.c t.2.1 * f.c t.2.2) * 8) * 2 * (f.c t.2.1 * f.c t.2.2) := by
  unfold dblF; dsimp only; simp only [f.mod, f.mul, f.sub, f.two, f.three, f.four, f.eight]
theorem dbl_2 (t : T3) : f.c (dblF p t).2.1 = f.c t.1 * 3 * f.c t.1 * (f.c t.1 * f.c t.2.1 * (f.c t.2.1 * f.c t.2.2) * 4 - (f.c t.1 * 3 * f.c t.1 * (f.c t.1 * 3 * f.c t.1) - f.c t.1 * f.c t.2.1 * (f.c t.2.1 * f.c t.2.2) * 8)) - f.c t.2.1 * 8 * f.c t.2.1 * (f.c t.2.1 * f.c t.2.2 * (f.c t.2.1 * f.c t.2.2)) := by
  unfold dblF; dsimp only; simp only [f.mod, f.mul, f.sub, f.two, f.three, f.four, f.eight]
theorem dbl_3 (t : T3) : f.c (dblF p t).2.2 = f.c t.2.1 * f.c t.2.2 * 8 * (f.c t.2.1 * f.c t.2.2 * (f.c t.2.1 * f.c t.2.2)) := by
  unfold dblF; dsimp only; simp only [f.mod, f.mul, f.sub, f.two, f.three, f.four, f.eight]
theorem dbl_m (t : T3) : (dblF p t).2.2 % p = (dblF p t).2.2 := by
  unfold dblF; exact Int.emod_emod_of_dvd _ (Int.dvd_refl _)
theorem dbl_0 {t : T3} (h : f.c (dblF p t).2.2 = 0) : (dblF p t).2.2 = 0 := by
  rw [f.eq0, dbl_m] at h; exact h
theorem rep_dbl (C : Cv F) {t : T3} {P : Pt F} (hP : On C P) (h : Rep f t P) : Rep f (dblF p t) (padd C P P) := by
  cases P with
  | inf =>
    refine dbl_0 f ?_
    have e : t.2.2 = 0 := h
    rw [dbl_3, e, f.zero, mul_z]; exact pr_z _ rfl
  | aff x y =>
    obtain ⟨hz, hx, hy⟩ := h
    have h3 := dbl_3 f t
    have h1 := dbl_1 f t
    have h2 := dbl_2 f t
    rw [hx, hy] at h1 h2
    rw [hy] at h3
    generalize f.c t.2.2 = z at hz h1 h2 h3
    by_cases hs : x = x ∧ y + y = 0
    · rw [padd_opp C hs]
      refine dbl_0 f ?_
      have hy0 := (f.dom (pr_2 _ hs.2)).resolve_left f.two_ne
      rw [h3, pr_0 y z hy0]; exact pr_z _ rfl
    · have a := slope_line C hP hP hs
      generalize slope C x y x y = l at a
      rw [padd_line C hP hP hs a]
      have hW := pr_d1 l x y z _ _ a.2 rfl rfl
      have hS := pr_d2 x y z _ rfl
      rw [hW, hS, pr_d3, pr_d4] at h1
      rw [hW, hS, pr_d3, pr_d5 l x y z _ _ rfl] at h2
      refine ⟨?_, ?_, ?_⟩
      · rw [h3]
        intro e
        rw [pr_8] at e
        have hyn : y ≠ 0 := fun q => hs ⟨rfl, by rw [q]; exact Semiring.add_zero 0⟩
        have n2 : 2 * (y * z * z) ≠ 0 := fun q => (f.dom q).elim f.two_ne fun q => (f.dom q).elim (fun q => (f.dom q).elim hyn hz) hz
        exact (f.dom e).elim (fun q => (f.dom q).elim n2 n2) n2
      · rw [h1, h3]
      · rw [h2, h3]

theorem addG_1 (t t' : T3) : f.c (addG p t t').1 = (f.c t'.1 * f.c t.2.2 - f.c t.1 * f.c t'.2.2) * ((f.c t'.2.1 * f.c t.2.2 - f.c t.2.1 * f.c t'.2.2) * (f.c t'.2.1 * f.c t.2.2 - f.c t.2.1 * f.c t'.2.2) * (f.c t.2.2 * f.c t'.2.2)
    - (f.c t'.1 * f.c t.2.2 - f.c t.1 * f.c t'.2.2) * ((f.c t'.1 * f.c t.2.2 - f.c t.1 * f.c t'.2.2) * (f.c t'.1 * f.c t.2.2 - f.c t.1 * f.c t'.2.2)) - (f.c t'.1 * f.c t.2.2 - f.c t.1 * f.c t'.2.2) * (f.c t'.1 * f.c t.2.2 - f.c t.1 * f.c t'.2.2) * (f.c t.1 * f.c t'.2.2) * 2) := by
  unfold addG; dsimp only; simp only [f.mod, f.mul, f.sub, f.two, f.three, f.four, f.eight]
theorem addG_2 (t t' : T3) : f.c (addG p t t').2.1 = (f.c t'.2.1 * f.c t.2.2 - f.c t.2.1 * f.c t'.2.2) * ((f.c t'.1 * f.c t.2.2 - f.c t.1 * f.c t'.2.2) * (f.c t'.1 * f.c t.2.2 - f.c t.1 * f.c t'.2.2) * (f.c t.1 * f.c t'.2.2) - ((f.c t'.2.1 * f.c t.2.2 - f.c t.2.1 * f.c t'.2.2) * (f.c t'.2.1 * f.c t.2.2 - f.c t.2.1 * f.c t'.2.2) * (f.c t.2.2 * f.c t'.2.2)
    - (f.c t'.1 * f.c t.2.2 - f.c t.1 * f.c t'.2.2) * ((f.c t'.1 * f.c t.2.2 - f.c t.1 * f.c t'.2.2) * (f.c t'.1 * f.c t.2.2 - f.c t.1 * f.c t'.2.2)) - (f.c t'.1 * f.c t.2.2 - f.c t.1 * f.c t'.2.2) * (f.c t'.1 * f.c t.2.2 - f.c t.1 * f.c t'.2.2) * (f.c t.1 * f.c t'.2.2) * 2))
    - (f.c t'.1 * f.c t.2.2 - f.c t.1 * f.c t'.2.2) * ((f.c t'.1 * f.c t.2.2 - f.c t.1 * f.c t'.2.2) * (f.c t'.1 * f.c t.2.2 - f.c t.1 * f.c t'.2.2)) * (f.c t.2.1 * f.c t'.2.2) := by
  unfold addG; dsimp only; simp only [f.mod, f.mul, f.sub, f.two, f.three, f.four, f.eight]
theorem addG_3 (t t' : T3) : f.c (addG p t t').2.2 = (f.c t'.1 * f.c t.2.2 - f.c t.1 * f.c t'.2.2) * ((f.c t'.1 * f.c t.2.2 - f.c t.1 * f.c t'.2.2) * (f.c t'.1 * f.c t.2.2 - f.c t.1 * f.c t'.2.2)) * (f.c t.2.2 * f.c t'.2.2) := by
  unfold addG; dsimp only; simp only [f.mod, f.mul, f.sub, f.two, f.three, f.four, f.eight]
include f in
theorem cross {x1 x2 z1 z2 : F} (h1 : z1 ≠ 0) (h2 : z2 ≠ 0) : x2 * z2 * z1 = x1 * z1 * z2 ↔ x1 = x2 := by
  have hw : z1 * z2 ≠ 0 := fun e => (f.dom e).elim h1 h2
  constructor
  · intro e
    rw [pr_w x1, pr_w x2, id_mc z2 z1] at e
    have e2 : (z1 * z2) * (x2 - x1) = 0 := by rw [id_m, id_mc _ x2, id_mc _ x1, e]; exact sub_of rfl
    exact (zero_of_sub ((f.dom e2).resolve_left hw)).symm
  · rintro rfl; exact pr_e _ _ _
theorem rep_add (C : Cv F) {t t' : T3} {P Q : Pt F} (hP : On C P) (hQ : On C Q) (h : Rep f t P) (h' : Rep f t' Q) : Rep f (addF p t t') (padd C P Q) := by
  cases Q with
  | inf => rw [addF_inf2 h', padd_inf]; exact h
  | aff x2 y2 =>
    have n2 := Rep.zn f h'
    cases P with
    | inf => rw [addF_inf1 h n2]; exact h'
    | aff x1 y1 =>
      have n1 := Rep.zn f h
      obtain ⟨hz, hx, hy⟩ := h
      obtain ⟨hz', hx', hy'⟩ := h'
      have eV : t'.1 * t.2.2 % p = t.1 * t'.2.2 % p ↔ x1 = x2 := by
        rw [← f.eq, f.mul, f.mul, hx, hx', cross f hz hz']
      have eU : t'.2.1 * t.2.2 % p = t.2.1 * t'.2.2 % p ↔ y1 = y2 := by
        rw [← f.eq, f.mul, f.mul, hy, hy', cross f hz hz']
      by_cases hxx : x1 = x2
      · by_cases hyy : y1 = y2
        · rw [addF_dbl n1 n2 (eV.mpr hxx) (eU.mpr hyy), ← hxx, ← hyy]
          exact rep_dbl f C hP ⟨hz, hx, hy⟩
        · rw [addF_opp n1 n2 (eV.mpr hxx) (fun e => hyy (eU.mp e))]
          have ho : y1 + y2 = 0 := Classical.byContradiction fun n => hyy (same_y C hP (hxx ▸ hQ) n)
          rw [padd_opp C ⟨hxx, ho⟩]
          exact (rfl : (1, 1, (0 : Int)).2.2 = 0)
      · rw [addF_gen n1 n2 (fun e => hxx (eV.mp e))]
        have hs : ¬ (x1 = x2 ∧ y1 + y2 = 0) := fun q => hxx q.1
        have a := slope_line C hP hQ hs
        generalize slope C x1 y1 x2 y2 = l at a
        rw [padd_line C hP hQ hs a]
        have h1 := addG_1 f t t'
        have h2 := addG_2 f t t'
        have h3 := addG_3 f t t'
        rw [hx, hy, hx', hy'] at h1 h2
        rw [hx, hx'] at h3
        generalize f.c t.2.2 = z1 at hz h1 h2 h3
        generalize f.c t'.2.2 = z2 at hz' h1 h2 h3
        obtain ⟨eu, ev⟩ := pr_a1 l x1 y1 z1 x2 y2 z2 _ _ _ a.1 rfl rfl rfl
        have hw : z1 * z2 ≠ 0 := fun e => (f.dom e).elim hz hz'
        rw [eu, pr_w x1 z1 z2] at h1 h2
        rw [pr_w x1 z1 z2] at h3 ev
        rw [pr_w y1 z1 z2] at h2
        generalize x2 * z2 * z1 - x1 * (z1 * z2) = V at ev h1 h2 h3
        generalize z1 * z2 = w at hw ev h1 h2 h3
        rw [pr_a2 _ _ _ _ _ ev] at h1 h2
        rw [pr_a3] at h1
        rw [pr_a4] at h2
        have hV : V ≠ 0 := by
          rw [ev]; exact fun e => (f.dom e).elim (sub_ne hxx) hw
        refine ⟨?_, ?_, ?_⟩
        · rw [h3]; exact fun e => (f.dom e).elim (fun e => (f.dom e).elim hV fun e => (f.dom e).elim hV hV) hw
        · rw [h1, h3]
        · rw [h2, h3]
theorem rep_mul (C : Cv F) : ∀ (k : Nat) {t : T3} {P : Pt F} (n : Int), On C P → Rep f t P → 0 ≤ n → n < 2 ^ k → Rep f (mulF p k t n) (smul C n.toNat P)
  | 0, t, P, n, hP, h, h0, h1 => by
    have : n = 0 := by omega
    subst this; exact (rfl : (1, 1, (0 : Int)).2.2 = 0)
  | k + 1, t, P, n, hP, h, h0, h1 => by
    by_cases e0 : n = 0
    · subst e0; rw [mulF_zero rfl]; exact (rfl : (1, 1, (0 : Int)).2.2 = 0)
    by_cases e1 : n = 1
    · subst e1; rw [mulF_one rfl]
      show Rep f t (smul C 1 P)
      rw [smul_one]; exact h
    have hD := rep_dbl f C hP h
    have oD := padd_on C hP hP
    have e2 : smul C 2 P = padd C P P := by show padd C P (smul C 1 P) = _; rw [smul_one]
    have hh : n / 2 < 2 ^ k := by rw [Int.pow_succ] at h1; omega
    have ih := rep_mul C k (n / 2) oD hD (by omega) hh
    rw [← e2, ← smul_mul C hP 2] at ih
    by_cases ev : n % 2 = 0
    · rw [mulF_even e0 e1 (by rw [Int.fmod_eq_emod_of_nonneg n (by decide)]; exact ev), Int.fdiv_eq_ediv_of_nonneg n (by decide)]
      have : 2 * (n / 2).toNat = n.toNat := by omega
      rw [this] at ih; exact ih
    · rw [mulF_odd e0 e1 (by rw [Int.fmod_eq_emod_of_nonneg n (by decide)]; exact ev), Int.fdiv_eq_ediv_of_nonneg n (by decide)]
      have : n.toNat = 2 * (n / 2).toNat + 1 := by omega
      rw [this]
      show Rep f _ (padd C P (smul C _ P))
      rw [padd_comm C hP (smul_on C hP _)]
      exact rep_add f C (smul_on C hP _) hP ih h
end
end Mine
end

section
set_option linter.all false
namespace Mine
open Lean.Grind
/-- what the kernel reckons for one modulus -/
structure Tab (p : Nat) : Type where
  g : Nat
  k : Nat
  seven : 7 ≤ p
  twelve : p % 12 = 7
  top : p ≤ 10039
  hk : p ≤ 2 ^ k
  all : Nat.beq (Nat.lor (orT (pwp g p) k 0) 1) (Nat.sub (Nat.pow 2 p) 1) = true
  ord : Nat.beq (pwp g p (p - 1)) 1 = true
  cnt : ∀ i, i < 6 → ∃ N : Nat, Nat.beq (Nat.add 1 (sumT (leaf p (pwp g p i) (orT (sqp p) k 0)) k 0)) N = true ∧ CountIs p (pwp g p i) N ∧ 2 ≤ N ∧ N ≤ 20000

theorem Tab.gen {p : Nat} (T : Tab p) (a : Nat) (h0 : 0 < a) (h : a < p) : ∃ e, T.g ^ e % p = a := by
  have e1 : (orT (pwp T.g p) T.k 0 ||| 1) = 2 ^ p - 1 := Nat.eq_of_beq_eq_true T.all
  have e2 : (2 ^ p - 1).testBit a = true := by rw [Nat.testBit_two_pow_sub_one]; simpa using h
  rw [← e1, Nat.testBit_or, Bool.or_eq_true] at e2
  rcases e2 with e2 | e2
  · rw [orT_bit] at e2
    obtain ⟨e, _, _, he⟩ := e2
    exact ⟨e, he⟩
  · rw [Nat.testBit_one_eq_true_iff_self_eq_zero] at e2; omega

def Tab.fd {p : Nat} [NeZero p] (T : Tab p) : Fd (Fin p) p where
  c := fun a => @IntCast.intCast (Fin p) Ring.intCast a
  add := Ring.intCast_add
  mul := Ring.intCast_mul
  one := Ring.intCast_one
  eq := fun a b => IsCharP.intCast_ext_iff p
  surj := fun x => ⟨x.val, x.isLt, by
    refine (Ring.intCast_natCast _).trans ?_
    exact Fin.ext (Nat.mod_eq_of_lt x.isLt)⟩
  seven := T.seven
  twelve := T.twelve
  g := T.g
  gen := T.gen
  ord := Nat.eq_of_beq_eq_true T.ord

theorem countIs_uniq {p b N N' : Int} (h : CountIs p b N) (h' : CountIs p b N') : N = N' := by
  obtain ⟨f0, f1, n1, u0, v0, u1, v1, h1, h2, h3, h4, _, _, h5, h6⟩ := h
  obtain ⟨f0', f1', n1', u0', v0', u1', v1', h1', h2', h3', h4', _, _, h5', h6'⟩ := h'
  rw [h1] at h1'; injection h1' with h1'; subst h1'
  rw [h2] at h2'; injection h2' with h2'; injection h2' with q1 q2; subst q1 q2
  subst h3 h4 h3' h4'
  rw [h5] at h5'; injection h5' with h5'; injection h5' with q1 q2; subst q1 q2
  rw [h6, h6']

section
variable {F : Type} [CommRing F] [DecidableEq F] {p : Nat} (f : Fd F p)
theorem id_sx (a t : F) : 4 * (a * t) = 4 * a * t := by grind
theorem id_t6' (t : F) : t * t * t * t * t * t = ((((((1 * t) * t) * t) * t) * t) * t) := by grind
theorem pow_6 (t : F) : t ^ 6 = t * t * t * t * t * t := by rw [id_t6', ← pow_0 t, ← pow_s, ← pow_s, ← pow_s, ← pow_s, ← pow_s, ← pow_s]
include f
theorem Fd.cpow (a n : Int) : f.c (powI a n p) = f.c a ^ n.toNat := by
  unfold Mine.powI
  have hp := f.pos
  have e : (((a % (p : Int)).toNat : Nat) : Int) = a % p := Int.toNat_of_nonneg (Int.emod_nonneg _ (by omega))
  rw [Int.natCast_emod, Int.toNat_natCast, f.mod, Int.natCast_pow, f.pow, e, f.mod]
theorem Fd.mark {b b0 : Int} {t : F} (ht : t ≠ 0) (h : f.c b = f.c b0 * (t * t * t * t * t * t)) : Mine.powI (4 * b) ((p - 1) / 6) p = Mine.powI (4 * b0) ((p - 1) / 6) p := by
  have h7 := f.seven
  have h12 := f.twelve
  have e : f.c (Mine.powI (4 * b) ((p - 1) / 6) p) = f.c (Mine.powI (4 * b0) ((p - 1) / 6) p) := by
    rw [f.cpow, f.cpow, f.mul, f.mul, h, f.four, id_sx, ← pow_6, CommSemiring.mul_pow, ← pow_m]
    have q : 6 * (((p : Int) - 1) / 6).toNat = p - 1 := by omega
    rw [q, f.fermat ht]; exact mul_one' _
  rw [f.eq, Int.emod_eq_of_lt (powI_lo _ _ _) (powI_hi _ _ (by omega)), Int.emod_eq_of_lt (powI_lo _ _ _) (powI_hi _ _ (by omega))] at e
  exact e
theorem countIs_mark {b b0 N : Int} (e : Mine.powI (4 * b) ((p - 1) / 6) p = Mine.powI (4 * b0) ((p - 1) / 6) p) (h : CountIs p b0 N) : CountIs p b N := by
  unfold CountIs at h ⊢; rw [e]; exact h
end

theorem Tab.curve {p : Nat} [NeZero p] (T : Tab p) {b : Int} (h1 : 1 ≤ b) (h2 : b < p) : ∃ N : Nat, CountIs p b N ∧ 2 ≤ N ∧ N ≤ 20000 ∧
    ∀ C : Cv (Fin p), C.b = T.fd.c b → (∀ P, On C P → smul C N P = .inf) ∧ ∃ x y, y * y = x * x * x + C.b := by
  obtain ⟨e, he⟩ := T.gen b.toNat (by omega) (by omega)
  obtain ⟨N, c1, c2, c3, c4⟩ := T.cnt (e % 6) (Nat.mod_lt _ (by decide))
  have hb : T.fd.c b = T.fd.c T.g ^ e := by
    have q : b = ((T.g ^ e % p : Nat) : Int) := by omega
    rw [q]; exact T.fd.powN T.g e
  have hg : T.fd.c T.g ≠ 0 := T.fd.g_ne
  have ht := T.fd.pow_ne hg (e / 6)
  have h0 : T.fd.c ((pwp T.g p (e % 6) : Nat) : Int) = T.fd.c T.g ^ (e % 6) := T.fd.powN T.g (e % 6)
  have key : T.fd.c b = T.fd.c ((pwp T.g p (e % 6) : Nat) : Int) * (T.fd.c T.g ^ (e / 6) * T.fd.c T.g ^ (e / 6) * T.fd.c T.g ^ (e / 6) * T.fd.c T.g ^ (e / 6) * T.fd.c T.g ^ (e / 6) * T.fd.c T.g ^ (e / 6)) := by
    rw [hb, h0, ← pow_6, ← pow_m, ← Semiring.pow_add]
    congr 1; omega
  refine ⟨N, countIs_mark T.fd (T.fd.mark ht key) c2, c3, c4, fun C hC => ?_⟩
  have k := T.fd.kills ht T.hk (Nat.eq_of_beq_eq_true c1) C (hC.trans key)
  exact ⟨k.1, k.2 c3⟩

section
variable {F : Type} [CommRing F] [DecidableEq F] {p : Nat} (f : Fd F p)
theorem id_cu (x b : F) : x * x * x + b = (1 * x) * x * x + b := by grind
theorem pow_3 (x : F) : x ^ 3 = x * x * x := by
  have e : x * x * x = (1 * x) * x * x := by grind
  rw [e, ← pow_0 x, ← pow_s, ← pow_s, ← pow_s]
theorem pow_22 (y : F) (m : Nat) : (y * y) ^ m * (y * y) ^ m = y ^ (4 * m) := by
  have e : y * y = y ^ 2 := by
    have e : y * y = (1 * y) * y := by grind
    rw [e, ← pow_0 y, ← pow_s, ← pow_s]
  rw [e, ← pow_m, ← Semiring.pow_add]
  congr 1; omega
theorem id_ss (a b c : F) (h : a = b + c) : a - b - c = 0 := by grind
include f
theorem Fd.sqrt (y : F) : (y * y) ^ ((((p : Int) + 1) / 4).toNat) * (y * y) ^ ((((p : Int) + 1) / 4).toNat) = y * y := by
  have h7 := f.seven
  have h12 := f.twelve
  rw [pow_22]
  have q : 4 * (((p : Int) + 1) / 4).toNat = (p - 1) + 1 + 1 := by omega
  rw [q, pow_s, pow_s]
  by_cases hy : y = 0
  · subst hy; rw [mul_z, mul_z]
  · rw [f.fermat hy, one_mul']
theorem Fd.good {b : Int} {a : Nat} {y : F} (h : y * y = f.c a * f.c a * f.c a + f.c b) : (powI ((a : Int) ^ 3 + b) ((p + 1) / 4) p * powI ((a : Int) ^ 3 + b) ((p + 1) / 4) p - (a : Int) ^ 3 - b) % (p : Int) = 0 := by
  have e : f.c ((a : Int) ^ 3 + b) = y * y := by rw [f.add, f.pow, pow_3, h]
  rw [← f.eq0, f.sub, f.sub, f.mul, f.cpow, e, f.sqrt, f.pow, pow_3]
  exact id_ss _ _ _ h
end
theorem search_finds {p b a : Int} (hp : 0 < p) (ga : (powI (a ^ 3 + b) ((p + 1) / 4) p * powI (a ^ 3 + b) ((p + 1) / 4) p - a ^ 3 - b) % p = 0) : ∀ (k d : Nat) (x : Int), d < k → 0 ≤ x → x < p → (x + d) % p = a → ∃ x1, search p b k x = some x1
  | 0, d, x, h, _, _, _ => absurd h (Nat.not_lt_zero _)
  | k + 1, d, x, h, h0, h1, e => by
    unfold search
    split
    · rename_i hn
      cases d with
      | zero =>
        have : x = a := by rw [← e, Int.natCast_zero, Int.add_zero, Int.emod_eq_of_lt h0 h1]
        rw [this] at hn; exact absurd ga hn
      | succ d =>
        refine search_finds hp ga k d _ (by omega) (Int.emod_nonneg _ (by omega)) (Int.emod_lt_of_pos _ hp) ?_
        rw [← e, Int.emod_add_emod, Int.natCast_add, Int.add_assoc, Int.add_comm (1 : Int)]; rfl
    · exact ⟨x, rfl⟩
end Mine
end

section
set_option linter.all false
set_option maxRecDepth 100000
namespace Mine
theorem l1_7 : loop1 ((7 : Nat) : Int) 20 1 = some 8 := by decide +kernel
theorem l2_7 : loop2 ((7 : Nat) : Int) 400 8 1 = some (1, 1) := by decide +kernel
theorem n_7_0 : ∃ N : Nat, Nat.beq (Nat.add 1 (sumT (leaf 7 (pwp 3 7 0) (orT (sqp 7) 3 0)) 3 0)) N = true ∧ CountIs ((7 : Nat) : Int) ((pwp 3 7 0 : Nat) : Int) (N : Int) ∧ 2 ≤ N ∧ N ≤ 20000 :=
  ⟨12, by decide +kernel, ⟨8, 1, 1, 2, 3, 1, -2, l1_7, l2_7, by decide +kernel, by decide +kernel, by decide +kernel, by decide +kernel, by decide +kernel, by decide +kernel⟩, by decide, by decide⟩
theorem n_7_1 : ∃ N : Nat, Nat.beq (Nat.add 1 (sumT (leaf 7 (pwp 3 7 1) (orT (sqp 7) 3 0)) 3 0)) N = true ∧ CountIs ((7 : Nat) : Int) ((pwp 3 7 1 : Nat) : Int) (N : Int) ∧ 2 ≤ N ∧ N ≤ 20000 :=
  ⟨13, by decide +kernel, ⟨8, 1, 1, 2, 3, 3, 1, l1_7, l2_7, by decide +kernel, by decide +kernel, by decide +kernel, by decide +kernel, by decide +kernel, by decide +kernel⟩, by decide, by decide⟩
theorem n_7_2 : ∃ N : Nat, Nat.beq (Nat.add 1 (sumT (leaf 7 (pwp 3 7 2) (orT (sqp 7) 3 0)) 3 0)) N = true ∧ CountIs ((7 : Nat) : Int) ((pwp 3 7 2 : Nat) : Int) (N : Int) ∧ 2 ≤ N ∧ N ≤ 20000 :=
  ⟨9, by decide +kernel, ⟨8, 1, 1, 2, 3, 2, 3, l1_7, l2_7, by decide +kernel, by decide +kernel, by decide +kernel, by decide +kernel, by decide +kernel, by decide +kernel⟩, by decide, by decide⟩
theorem n_7_3 : ∃ N : Nat, Nat.beq (Nat.add 1 (sumT (leaf 7 (pwp 3 7 3) (orT (sqp 7) 3 0)) 3 0)) N = true ∧ CountIs ((7 : Nat) : Int) ((pwp 3 7 3 : Nat) : Int) (N : Int) ∧ 2 ≤ N ∧ N ≤ 20000 :=
  ⟨4, by decide +kernel, ⟨8, 1, 1, 2, 3, -1, 2, l1_7, l2_7, by decide +kernel, by decide +kernel, by decide +kernel, by decide +kernel, by decide +kernel, by decide +kernel⟩, by decide, by decide⟩
theorem n_7_4 : ∃ N : Nat, Nat.beq (Nat.add 1 (sumT (leaf 7 (pwp 3 7 4) (orT (sqp 7) 3 0)) 3 0)) N = true ∧ CountIs ((7 : Nat) : Int) ((pwp 3 7 4 : Nat) : Int) (N : Int) ∧ 2 ≤ N ∧ N ≤ 20000 :=
  ⟨3, by decide +kernel, ⟨8, 1, 1, 2, 3, -3, -1, l1_7, l2_7, by decide +kernel, by decide +kernel, by decide +kernel, by decide +kernel, by decide +kernel, by decide +kernel⟩, by decide, by decide⟩
theorem n_7_5 : ∃ N : Nat, Nat.beq (Nat.add 1 (sumT (leaf 7 (pwp 3 7 5) (orT (sqp 7) 3 0)) 3 0)) N = true ∧ CountIs ((7 : Nat) : Int) ((pwp 3 7 5 : Nat) : Int) (N : Int) ∧ 2 ≤ N ∧ N ≤ 20000 :=
  ⟨7, by decide +kernel, ⟨8, 1, 1, 2, 3, -2, -3, l1_7, l2_7, by decide +kernel, by decide +kernel, by decide +kernel, by decide +kernel, by decide +kernel, by decide +kernel⟩, by decide, by decide⟩
theorem g_7 : Nat.beq (Nat.lor (orT (pwp 3 7) 3 0) 1) (Nat.sub (Nat.pow 2 7) 1) = true := by decide +kernel
theorem o_7 : Nat.beq (pwp 3 7 (7 - 1)) 1 = true := by decide +kernel
def tab_7 : Tab 7 where
  g := 3
  k := 3
  seven := by decide
  twelve := by decide
  top := by decide
  hk := by decide
  all := g_7
  ord := o_7
  cnt := fun i h => match i, h with
    | 0, _ => n_7_0
    | 1, _ => n_7_1
    | 2, _ => n_7_2
    | 3, _ => n_7_3
    | 4, _ => n_7_4
    | 5, _ => n_7_5
    | i + 6, h => absurd h (by omega)
theorem l1_19 : loop1 ((19 : Nat) : Int) 20 1 = some 16 := by decide +kernel
theorem l2_19 : loop2 ((19 : Nat) : Int) 400 16 1 = some (7, 1) := by decide +kernel
theorem n_19_0 : ∃ N : Nat, Nat.beq (Nat.add 1 (sumT (leaf 19 (pwp 2 19 0) (orT (sqp 19) 5 0)) 5 0)) N = true ∧ CountIs ((19 : Nat) : Int) ((pwp 2 19 0 : Nat) : Int) (N : Int) ∧ 2 ≤ N ∧ N ≤ 20000 :=
  ⟨12, by decide +kernel, ⟨16, 7, 1, 5, 3, -3, 2, l1_19, l2_19, by decide +kernel, by decide +kernel, by decide +kernel, by decide +kernel, by decide +kernel, by decide +kernel⟩, by decide, by decide⟩
theorem n_19_1 : ∃ N : Nat, Nat.beq (Nat.add 1 (sumT (leaf 19 (pwp 2 19 1) (orT (sqp 19) 5 0)) 5 0)) N = true ∧ CountIs ((19 : Nat) : Int) ((pwp 2 19 1 : Nat) : Int) (N : Int) ∧ 2 ≤ N ∧ N ≤ 20000 :=
  ⟨13, by decide +kernel, ⟨16, 7, 1, 5, 3, -5, -3, l1_19, l2_19, by decide +kernel, by decide +kernel, by decide +kernel, by decide +kernel, by decide +kernel, by decide +kernel⟩, by decide, by decide⟩
theorem n_19_2 : ∃ N : Nat, Nat.beq (Nat.add 1 (sumT (leaf 19 (pwp 2 19 2) (orT (sqp 19) 5 0)) 5 0)) N = true ∧ CountIs ((19 : Nat) : Int) ((pwp 2 19 2 : Nat) : Int) (N : Int) ∧ 2 ≤ N ∧ N ≤ 20000 :=
  ⟨21, by decide +kernel, ⟨16, 7, 1, 5, 3, -2, -5, l1_19, l2_19, by decide +kernel, by decide +kernel, by decide +kernel, by decide +kernel, by decide +kernel, by decide +kernel⟩, by decide, by decide⟩
theorem n_19_3 : ∃ N : Nat, Nat.beq (Nat.add 1 (sumT (leaf 19 (pwp 2 19 3) (orT (sqp 19) 5 0)) 5 0)) N = true ∧ CountIs ((19 : Nat) : Int) ((pwp 2 19 3 : Nat) : Int) (N : Int) ∧ 2 ≤ N ∧ N ≤ 20000 :=
  ⟨28, by decide +kernel, ⟨16, 7, 1, 5, 3, 3, -2, l1_19, l2_19, by decide +kernel, by decide +kernel, by decide +kernel, by decide +kernel, by decide +kernel, by decide +kernel⟩, by decide, by decide⟩
theorem n_19_4 : ∃ N : Nat, Nat.beq (Nat.add 1 (sumT (leaf 19 (pwp 2 19 4) (orT (sqp 19) 5 0)) 5 0)) N = true ∧ CountIs ((19 : Nat) : Int) ((pwp 2 19 4 : Nat) : Int) (N : Int) ∧ 2 ≤ N ∧ N ≤ 20000 :=
  ⟨27, by decide +kernel, ⟨16, 7, 1, 5, 3, 5, 3, l1_19, l2_19, by decide +kernel, by decide +kernel, by decide +kernel, by decide +kernel, by decide +kernel, by decide +kernel⟩, by decide, by decide⟩
theorem n_19_5 : ∃ N : Nat, Nat.beq (Nat.add 1 (sumT (leaf 19 (pwp 2 19 5) (orT (sqp 19) 5 0)) 5 0)) N = true ∧ CountIs ((19 : Nat) : Int) ((pwp 2 19 5 : Nat) : Int) (N : Int) ∧ 2 ≤ N ∧ N ≤ 20000 :=
  ⟨19, by decide +kernel, ⟨16, 7, 1, 5, 3, 2, 5, l1_19, l2_19, by decide +kernel, by decide +kernel, by decide +kernel, by decide +kernel, by decide +kernel, by decide +kernel⟩, by decide, by decide⟩
theorem g_19 : Nat.beq (Nat.lor (orT (pwp 2 19) 5 0) 1) (Nat.sub (Nat.pow 2 19) 1) = true := by decide +kernel
theorem o_19 : Nat.beq (pwp 2 19 (19 - 1)) 1 = true := by decide +kernel
def tab_19 : Tab 19 where
  g := 2
  k := 5
  seven := by decide
  twelve := by decide
  top := by decide
  hk := by decide
  all := g_19
  ord := o_19
  cnt := fun i h => match i, h with
    | 0, _ => n_19_0
    | 1, _ => n_19_1
    | 2, _ => n_19_2
    | 3, _ => n_19_3
    | 4, _ => n_19_4
    | 5, _ => n_19_5
    | i + 6, h => absurd h (by omega)
theorem l1_31 : loop1 ((31 : Nat) : Int) 20 1 = some 16 := by decide +kernel
theorem l2_31 : loop2 ((31 : Nat) : Int) 400 16 1 = some (4, 2) := by decide +kernel
theorem n_31_0 : ∃ N : Nat, Nat.beq (Nat.add 1 (sumT (leaf 31 (pwp 3 31 0) (orT (sqp 31) 5 0)) 5 0)) N = true ∧ CountIs ((31 : Nat) : Int) ((pwp 3 31 0 : Nat) : Int) (N : Int) ∧ 2 ≤ N ∧ N ≤ 20000 :=
  ⟨36, by decide +kernel, ⟨16, 4, 2, 5, 6, 5, 6, l1_31, l2_31, by decide +kernel, by decide +kernel, by decide +kernel, by decide +kernel, by decide +kernel, by decide +kernel⟩, by decide, by decide⟩
theorem n_31_1 : ∃ N : Nat, Nat.beq (Nat.add 1 (sumT (leaf 31 (pwp 3 31 1) (orT (sqp 31) 5 0)) 5 0)) N = true ∧ CountIs ((31 : Nat) : Int) ((pwp 3 31 1 : Nat) : Int) (N : Int) ∧ 2 ≤ N ∧ N ≤ 20000 :=
  ⟨43, by decide +kernel, ⟨16, 4, 2, 5, 6, 6, 1, l1_31, l2_31, by decide +kernel, by decide +kernel, by decide +kernel, by decide +kernel, by decide +kernel, by decide +kernel⟩, by decide, by decide⟩
theorem n_31_2 : ∃ N : Nat, Nat.beq (Nat.add 1 (sumT (leaf 31 (pwp 3 31 2) (orT (sqp 31) 5 0)) 5 0)) N = true ∧ CountIs ((31 : Nat) : Int) ((pwp 3 31 2 : Nat) : Int) (N : Int) ∧ 2 ≤ N ∧ N ≤ 20000 :=
  ⟨39, by decide +kernel, ⟨16, 4, 2, 5, 6, 1, -5, l1_31, l2_31, by decide +kernel, by decide +kernel, by decide +kernel, by decide +kernel, by decide +kernel, by decide +kernel⟩, by decide, by decide⟩
theorem n_31_3 : ∃ N : Nat, Nat.beq (Nat.add 1 (sumT (leaf 31 (pwp 3 31 3) (orT (sqp 31) 5 0)) 5 0)) N = true ∧ CountIs ((31 : Nat) : Int) ((pwp 3 31 3 : Nat) : Int) (N : Int) ∧ 2 ≤ N ∧ N ≤ 20000 :=
  ⟨28, by decide +kernel, ⟨16, 4, 2, 5, 6, -5, -6, l1_31, l2_31, by decide +kernel, by decide +kernel, by decide +kernel, by decide +kernel, by decide +kernel, by decide +kernel⟩, by decide, by decide⟩
theorem n_31_4 : ∃ N : Nat, Nat.beq (Nat.add 1 (sumT (leaf 31 (pwp 3 31 4) (orT (sqp 31) 5 0)) 5 0)) N = true ∧ CountIs ((31 : Nat) : Int) ((pwp 3 31 4 : Nat) : Int) (N : Int) ∧ 2 ≤ N ∧ N ≤ 20000 :=
  ⟨21, by decide +kernel, ⟨16, 4, 2, 5, 6, -6, -1, l1_31, l2_31, by decide +kernel, by decide +kernel, by decide +kernel, by decide +kernel, by decide +kernel, by decide +kernel⟩, by decide, by decide⟩
theorem n_31_5 : ∃ N : Nat, Nat.beq (Nat.add 1 (sumT (leaf 31 (pwp 3 31 5) (orT (sqp 31) 5 0)) 5 0)) N = true ∧ CountIs ((31 : Nat) : Int) ((pwp 3 31 5 : Nat) : Int) (N : Int) ∧ 2 ≤ N ∧ N ≤ 20000 :=
  ⟨25, by decide +kernel, ⟨16, 4, 2, 5, 6, -1, 5, l1_31, l2_31, by decide +kernel, by decide +kernel, by decide +kernel, by decide +kernel, by decide +kernel, by decide +kernel⟩, by decide, by decide⟩
theorem g_31 : Nat.beq (Nat.lor (orT (pwp 3 31) 5 0) 1) (Nat.sub (Nat.pow 2 31) 1) = true := by decide +kernel
theorem o_31 : Nat.beq (pwp 3 31 (31 - 1)) 1 = true := by decide +kernel
def tab_31 : Tab 31 where
  g := 3
  k := 5
  seven := by decide
  twelve := by decide
  top := by decide
  hk := by decide
  all := g_31
  ord := o_31
  cnt := fun i h => match i, h with
    | 0, _ => n_31_0
    | 1, _ => n_31_1
    | 2, _ => n_31_2
    | 3, _ => n_31_3
    | 4, _ => n_31_4
    | 5, _ => n_31_5
    | i + 6, h => absurd h (by omega)
theorem l1_43 : loop1 ((43 : Nat) : Int) 20 1 = some 16 := by decide +kernel
theorem l2_43 : loop2 ((43 : Nat) : Int) 400 16 1 = some (8, 2) := by decide +kernel
theorem n_43_0 : ∃ N : Nat, Nat.beq (Nat.add 1 (sumT (leaf 43 (pwp 3 43 0) (orT (sqp 43) 6 0)) 6 0)) N = true ∧ CountIs ((43 : Nat) : Int) ((pwp 3 43 0 : Nat) : Int) (N : Int) ∧ 2 ≤ N ∧ N ≤ 20000 :=
  ⟨36, by decide +kernel, ⟨16, 8, 2, -1, 6, -1, 6, l1_43, l2_43, by decide +kernel, by decide +kernel, by decide +kernel, by decide +kernel, by decide +kernel, by decide +kernel⟩, by decide, by decide⟩
theorem n_43_1 : ∃ N : Nat, Nat.beq (Nat.add 1 (sumT (leaf 43 (pwp 3 43 1) (orT (sqp 43) 6 0)) 6 0)) N = true ∧ CountIs ((43 : Nat) : Int) ((pwp 3 43 1 : Nat) : Int) (N : Int) ∧ 2 ≤ N ∧ N ≤ 20000 :=
  ⟨49, by decide +kernel, ⟨16, 8, 2, -1, 6, 6, 7, l1_43, l2_43, by decide +kernel, by decide +kernel, by decide +kernel, by decide +kernel, by decide +kernel, by decide +kernel⟩, by decide, by decide⟩
theorem n_43_2 : ∃ N : Nat, Nat.beq (Nat.add 1 (sumT (leaf 43 (pwp 3 43 2) (orT (sqp 43) 6 0)) 6 0)) N = true ∧ CountIs ((43 : Nat) : Int) ((pwp 3 43 2 : Nat) : Int) (N : Int) ∧ 2 ≤ N ∧ N ≤ 20000 :=
  ⟨57, by decide +kernel, ⟨16, 8, 2, -1, 6, 7, 1, l1_43, l2_43, by decide +kernel, by decide +kernel, by decide +kernel, by decide +kernel, by decide +kernel, by decide +kernel⟩, by decide, by decide⟩
theorem n_43_3 : ∃ N : Nat, Nat.beq (Nat.add 1 (sumT (leaf 43 (pwp 3 43 3) (orT (sqp 43) 6 0)) 6 0)) N = true ∧ CountIs ((43 : Nat) : Int) ((pwp 3 43 3 : Nat) : Int) (N : Int) ∧ 2 ≤ N ∧ N ≤ 20000 :=
  ⟨52, by decide +kernel, ⟨16, 8, 2, -1, 6, 1, -6, l1_43, l2_43, by decide +kernel, by decide +kernel, by decide +kernel, by decide +kernel, by decide +kernel, by decide +kernel⟩, by decide, by decide⟩
theorem n_43_4 : ∃ N : Nat, Nat.beq (Nat.add 1 (sumT (leaf 43 (pwp 3 43 4) (orT (sqp 43) 6 0)) 6 0)) N = true ∧ CountIs ((43 : Nat) : Int) ((pwp 3 43 4 : Nat) : Int) (N : Int) ∧ 2 ≤ N ∧ N ≤ 20000 :=
  ⟨39, by decide +kernel, ⟨16, 8, 2, -1, 6, -6, -7, l1_43, l2_43, by decide +kernel, by decide +kernel, by decide +kernel, by decide +kernel, by decide +kernel, by decide +kernel⟩, by decide, by decide⟩
theorem n_43_5 : ∃ N : Nat, Nat.beq (Nat.add 1 (sumT (leaf 43 (pwp 3 43 5) (orT (sqp 43) 6 0)) 6 0)) N = true ∧ CountIs ((43 : Nat) : Int) ((pwp 3 43 5 : Nat) : Int) (N : Int) ∧ 2 ≤ N ∧ N ≤ 20000 :=
  ⟨31, by decide +kernel, ⟨16, 8, 2, -1, 6, -7, -1, l1_43, l2_43, by decide +kernel, by decide +kernel, by decide +kernel, by decide +kernel, by decide +kernel, by decide +kernel⟩, by decide, by decide⟩
theorem g_43 : Nat.beq (Nat.lor (orT (pwp 3 43) 6 0) 1) (Nat.sub (Nat.pow 2 43) 1) = true := by decide +kernel
theorem o_43 : Nat.beq (pwp 3 43 (43 - 1)) 1 = true := by decide +kernel
def tab_43 : Tab 43 where
  g := 3
  k := 6
  seven := by decide
  twelve := by decide
  top := by decide
  hk := by decide
  all := g_43
  ord := o_43
  cnt := fun i h => match i, h with
    | 0, _ => n_43_0
    | 1, _ => n_43_1
    | 2, _ => n_43_2
    | 3, _ => n_43_3
    | 4, _ => n_43_4
    | 5, _ => n_43_5
    | i + 6, h => absurd h (by omega)
theorem l1_67 : loop1 ((67 : Nat) : Int) 20 1 = some 32 := by decide +kernel
theorem l2_67 : loop2 ((67 : Nat) : Int) 400 32 1 = some (5, 3) := by decide +kernel
theorem n_67_0 : ∃ N : Nat, Nat.beq (Nat.add 1 (sumT (leaf 67 (pwp 2 67 0) (orT (sqp 67) 7 0)) 7 0)) N = true ∧ CountIs ((67 : Nat) : Int) ((pwp 2 67 0 : Nat) : Int) (N : Int) ∧ 2 ≤ N ∧ N ≤ 20000 :=
  ⟨84, by decide +kernel, ⟨32, 5, 3, 2, 9, 7, -2, l1_67, l2_67, by decide +kernel, by decide +kernel, by decide +kernel, by decide +kernel, by decide +kernel, by decide +kernel⟩, by decide, by decide⟩
theorem n_67_1 : ∃ N : Nat, Nat.beq (Nat.add 1 (sumT (leaf 67 (pwp 2 67 1) (orT (sqp 67) 7 0)) 7 0)) N = true ∧ CountIs ((67 : Nat) : Int) ((pwp 2 67 1 : Nat) : Int) (N : Int) ∧ 2 ≤ N ∧ N ≤ 20000 :=
  ⟨73, by decide +kernel, ⟨32, 5, 3, 2, 9, -2, -9, l1_67, l2_67, by decide +kernel, by decide +kernel, by decide +kernel, by decide +kernel, by decide +kernel, by decide +kernel⟩, by decide, by decide⟩
theorem n_67_2 : ∃ N : Nat, Nat.beq (Nat.add 1 (sumT (leaf 67 (pwp 2 67 2) (orT (sqp 67) 7 0)) 7 0)) N = true ∧ CountIs ((67 : Nat) : Int) ((pwp 2 67 2 : Nat) : Int) (N : Int) ∧ 2 ≤ N ∧ N ≤ 20000 :=
  ⟨57, by decide +kernel, ⟨32, 5, 3, 2, 9, -9, -7, l1_67, l2_67, by decide +kernel, by decide +kernel, by decide +kernel, by decide +kernel, by decide +kernel, by decide +kernel⟩, by decide, by decide⟩
theorem n_67_3 : ∃ N : Nat, Nat.beq (Nat.add 1 (sumT (leaf 67 (pwp 2 67 3) (orT (sqp 67) 7 0)) 7 0)) N = true ∧ CountIs ((67 : Nat) : Int) ((pwp 2 67 3 : Nat) : Int) (N : Int) ∧ 2 ≤ N ∧ N ≤ 20000 :=
  ⟨52, by decide +kernel, ⟨32, 5, 3, 2, 9, -7, 2, l1_67, l2_67, by decide +kernel, by decide +kernel, by decide +kernel, by decide +kernel, by decide +kernel, by decide +kernel⟩, by decide, by decide⟩
theorem n_67_4 : ∃ N : Nat, Nat.beq (Nat.add 1 (sumT (leaf 67 (pwp 2 67 4) (orT (sqp 67) 7 0)) 7 0)) N = true ∧ CountIs ((67 : Nat) : Int) ((pwp 2 67 4 : Nat) : Int) (N : Int) ∧ 2 ≤ N ∧ N ≤ 20000 :=
  ⟨63, by decide +kernel, ⟨32, 5, 3, 2, 9, 2, 9, l1_67, l2_67, by decide +kernel, by decide +kernel, by decide +kernel, by decide +kernel, by decide +kernel, by decide +kernel⟩, by decide, by decide⟩
theorem n_67_5 : ∃ N : Nat, Nat.beq (Nat.add 1 (sumT (leaf 67 (pwp 2 67 5) (orT (sqp 67) 7 0)) 7 0)) N = true ∧ CountIs ((67 : Nat) : Int) ((pwp 2 67 5 : Nat) : Int) (N : Int) ∧ 2 ≤ N ∧ N ≤ 20000 :=
  ⟨79, by decide +kernel, ⟨32, 5, 3, 2, 9, 9, 7, l1_67, l2_67, by decide +kernel, by decide +kernel, by decide +kernel, by decide +kernel, by decide +kernel, by decide +kernel⟩, by decide, by decide⟩
theorem g_67 : Nat.beq (Nat.lor (orT (pwp 2 67) 7 0) 1) (Nat.sub (Nat.pow 2 67) 1) = true := by decide +kernel
theorem o_67 : Nat.beq (pwp 2 67 (67 - 1)) 1 = true := by decide +kernel
def tab_67 : Tab 67 where
  g := 2
  k := 7
  seven := by decide
  twelve := by decide
  top := by decide
  hk := by decide
  all := g_67
  ord := o_67
  cnt := fun i h => match i, h with
    | 0, _ => n_67_0
    | 1, _ => n_67_1
    | 2, _ => n_67_2
    | 3, _ => n_67_3
    | 4, _ => n_67_4
    | 5, _ => n_67_5
    | i + 6, h => absurd h (by omega)
theorem l1_79 : loop1 ((79 : Nat) : Int) 20 1 = some 32 := by decide +kernel
theorem l2_79 : loop2 ((79 : Nat) : Int) 400 32 1 = some (17, 1) := by decide +kernel
theorem n_79_0 : ∃ N : Nat, Nat.beq (Nat.add 1 (sumT (leaf 79 (pwp 3 79 0) (orT (sqp 79) 7 0)) 7 0)) N = true ∧ CountIs ((79 : Nat) : Int) ((pwp 3 79 0 : Nat) : Int) (N : Int) ∧ 2 ≤ N ∧ N ≤ 20000 :=
  ⟨84, by decide +kernel, ⟨32, 17, 1, -7, 3, -3, -10, l1_79, l2_79, by decide +kernel, by decide +kernel, by decide +kernel, by decide +kernel, by decide +kernel, by decide +kernel⟩, by decide, by decide⟩
theorem n_79_1 : ∃ N : Nat, Nat.beq (Nat.add 1 (sumT (leaf 79 (pwp 3 79 1) (orT (sqp 79) 7 0)) 7 0)) N = true ∧ CountIs ((79 : Nat) : Int) ((pwp 3 79 1 : Nat) : Int) (N : Int) ∧ 2 ≤ N ∧ N ≤ 20000 :=
  ⟨97, by decide +kernel, ⟨32, 17, 1, -7, 3, 7, -3, l1_79, l2_79, by decide +kernel, by decide +kernel, by decide +kernel, by decide +kernel, by decide +kernel, by decide +kernel⟩, by decide, by decide⟩
theorem n_79_2 : ∃ N : Nat, Nat.beq (Nat.add 1 (sumT (leaf 79 (pwp 3 79 2) (orT (sqp 79) 7 0)) 7 0)) N = true ∧ CountIs ((79 : Nat) : Int) ((pwp 3 79 2 : Nat) : Int) (N : Int) ∧ 2 ≤ N ∧ N ≤ 20000 :=
  ⟨93, by decide +kernel, ⟨32, 17, 1, -7, 3, 10, 7, l1_79, l2_79, by decide +kernel, by decide +kernel, by decide +kernel, by decide +kernel, by decide +kernel, by decide +kernel⟩, by decide, by decide⟩
theorem n_79_3 : ∃ N : Nat, Nat.beq (Nat.add 1 (sumT (leaf 79 (pwp 3 79 3) (orT (sqp 79) 7 0)) 7 0)) N = true ∧ CountIs ((79 : Nat) : Int) ((pwp 3 79 3 : Nat) : Int) (N : Int) ∧ 2 ≤ N ∧ N ≤ 20000 :=
  ⟨76, by decide +kernel, ⟨32, 17, 1, -7, 3, 3, 10, l1_79, l2_79, by decide +kernel, by decide +kernel, by decide +kernel, by decide +kernel, by decide +kernel, by decide +kernel⟩, by decide, by decide⟩
theorem n_79_4 : ∃ N : Nat, Nat.beq (Nat.add 1 (sumT (leaf 79 (pwp 3 79 4) (orT (sqp 79) 7 0)) 7 0)) N = true ∧ CountIs ((79 : Nat) : Int) ((pwp 3 79 4 : Nat) : Int) (N : Int) ∧ 2 ≤ N ∧ N ≤ 20000 :=
  ⟨63, by decide +kernel, ⟨32, 17, 1, -7, 3, -7, 3, l1_79, l2_79, by decide +kernel, by decide +kernel, by decide +kernel, by decide +kernel, by decide +kernel, by decide +kernel⟩, by decide, by decide⟩
theorem n_79_5 : ∃ N : Nat, Nat.beq (Nat.add 1 (sumT (leaf 79 (pwp 3 79 5) (orT (sqp 79) 7 0)) 7 0)) N = true ∧ CountIs ((79 : Nat) : Int) ((pwp 3 79 5 : Nat) : Int) (N : Int) ∧ 2 ≤ N ∧ N ≤ 20000 :=
  ⟨67, by decide +kernel, ⟨32, 17, 1, -7, 3, -10, -7, l1_79, l2_79, by decide +kernel, by decide +kernel, by decide +kernel, by decide +kernel, by decide +kernel, by decide +kernel⟩, by decide, by decide⟩
theorem g_79 : Nat.beq (Nat.lor (orT (pwp 3 79) 7 0) 1) (Nat.sub (Nat.pow 2 79) 1) = true := by decide +kernel
theorem o_79 : Nat.beq (pwp 3 79 (79 - 1)) 1 = true := by decide +kernel
def tab_79 : Tab 79 where
  g := 3
  k := 7
  seven := by decide
  twelve := by decide
  top := by decide
  hk := by decide
  all := g_79
  ord := o_79
  cnt := fun i h => match i, h with
    | 0, _ => n_79_0
    | 1, _ => n_79_1
    | 2, _ => n_79_2
    | 3, _ => n_79_3
    | 4, _ => n_79_4
    | 5, _ => n_79_5
    | i + 6, h => absurd h (by omega)
theorem l1_103 : loop1 ((103 : Nat) : Int) 20 1 = some 32 := by decide +kernel
theorem l2_103 : loop2 ((103 : Nat) : Int) 400 32 1 = some (13, 3) := by decide +kernel
theorem n_103_0 : ∃ N : Nat, Nat.beq (Nat.add 1 (sumT (leaf 103 (pwp 5 103 0) (orT (sqp 103) 7 0)) 7 0)) N = true ∧ CountIs ((103 : Nat) : Int) ((pwp 5 103 0 : Nat) : Int) (N : Int) ∧ 2 ≤ N ∧ N ≤ 20000 :=
  ⟨84, by decide +kernel, ⟨32, 13, 3, 11, 9, -9, 2, l1_103, l2_103, by decide +kernel, by decide +kernel, by decide +kernel, by decide +kernel, by decide +kernel, by decide +kernel⟩, by decide, by decide⟩
theorem n_103_1 : ∃ N : Nat, Nat.beq (Nat.add 1 (sumT (leaf 103 (pwp 5 103 1) (orT (sqp 103) 7 0)) 7 0)) N = true ∧ CountIs ((103 : Nat) : Int) ((pwp 5 103 1 : Nat) : Int) (N : Int) ∧ 2 ≤ N ∧ N ≤ 20000 :=
  ⟨97, by decide +kernel, ⟨32, 13, 3, 11, 9, 2, 11, l1_103, l2_103, by decide +kernel, by decide +kernel, by decide +kernel, by decide +kernel, by decide +kernel, by decide +kernel⟩, by decide, by decide⟩
theorem n_103_2 : ∃ N : Nat, Nat.beq (Nat.add 1 (sumT (leaf 103 (pwp 5 103 2) (orT (sqp 103) 7 0)) 7 0)) N = true ∧ CountIs ((103 : Nat) : Int) ((pwp 5 103 2 : Nat) : Int) (N : Int) ∧ 2 ≤ N ∧ N ≤ 20000 :=
  ⟨117, by decide +kernel, ⟨32, 13, 3, 11, 9, 11, 9, l1_103, l2_103, by decide +kernel, by decide +kernel, by decide +kernel, by decide +kernel, by decide +kernel, by decide +kernel⟩, by decide, by decide⟩
theorem n_103_3 : ∃ N : Nat, Nat.beq (Nat.add 1 (sumT (leaf 103 (pwp 5 103 3) (orT (sqp 103) 7 0)) 7 0)) N = true ∧ CountIs ((103 : Nat) : Int) ((pwp 5 103 3 : Nat) : Int) (N : Int) ∧ 2 ≤ N ∧ N ≤ 20000 :=
  ⟨124, by decide +kernel, ⟨32, 13, 3, 11, 9, 9, -2, l1_103, l2_103, by decide +kernel, by decide +kernel, by decide +kernel, by decide +kernel, by decide +kernel, by decide +kernel⟩, by decide, by decide⟩
theorem n_103_4 : ∃ N : Nat, Nat.beq (Nat.add 1 (sumT (leaf 103 (pwp 5 103 4) (orT (sqp 103) 7 0)) 7 0)) N = true ∧ CountIs ((103 : Nat) : Int) ((pwp 5 103 4 : Nat) : Int) (N : Int) ∧ 2 ≤ N ∧ N ≤ 20000 :=
  ⟨111, by decide +kernel, ⟨32, 13, 3, 11, 9, -2, -11, l1_103, l2_103, by decide +kernel, by decide +kernel, by decide +kernel, by decide +kernel, by decide +kernel, by decide +kernel⟩, by decide, by decide⟩
theorem n_103_5 : ∃ N : Nat, Nat.beq (Nat.add 1 (sumT (leaf 103 (pwp 5 103 5) (orT (sqp 103) 7 0)) 7 0)) N = true ∧ CountIs ((103 : Nat) : Int) ((pwp 5 103 5 : Nat) : Int) (N : Int) ∧ 2 ≤ N ∧ N ≤ 20000 :=
  ⟨91, by decide +kernel, ⟨32, 13, 3, 11, 9, -11, -9, l1_103, l2_103, by decide +kernel, by decide +kernel, by decide +kernel, by decide +kernel, by decide +kernel, by decide +kernel⟩, by decide, by decide⟩
theorem g_103 : Nat.beq (Nat.lor (orT (pwp 5 103) 7 0) 1) (Nat.sub (Nat.pow 2 103) 1) = true := by decide +kernel
theorem o_103 : Nat.beq (pwp 5 103 (103 - 1)) 1 = true := by decide +kernel
def tab_103 : Tab 103 where
  g := 5
  k := 7
  seven := by decide
  twelve := by decide
  top := by decide
  hk := by decide
  all := g_103
  ord := o_103
  cnt := fun i h => match i, h with
    | 0, _ => n_103_0
    | 1, _ => n_103_1
    | 2, _ => n_103_2
    | 3, _ => n_103_3
    | 4, _ => n_103_4
    | 5, _ => n_103_5
    | i + 6, h => absurd h (by omega)
theorem l1_127 : loop1 ((127 : Nat) : Int) 20 1 = some 32 := by decide +kernel
theorem l2_127 : loop2 ((127 : Nat) : Int) 400 32 1 = some (20, 2) := by decide +kernel
theorem n_127_0 : ∃ N : Nat, Nat.beq (Nat.add 1 (sumT (leaf 127 (pwp 3 127 0) (orT (sqp 127) 7 0)) 7 0)) N = true ∧ CountIs ((127 : Nat) : Int) ((pwp 3 127 0 : Nat) : Int) (N : Int) ∧ 2 ≤ N ∧ N ≤ 20000 :=
  ⟨108, by decide +kernel, ⟨32, 20, 2, -7, 6, -7, 6, l1_127, l2_127, by decide +kernel, by decide +kernel, by decide +kernel, by decide +kernel, by decide +kernel, by decide +kernel⟩, by decide, by decide⟩
theorem n_127_1 : ∃ N : Nat, Nat.beq (Nat.add 1 (sumT (leaf 127 (pwp 3 127 1) (orT (sqp 127) 7 0)) 7 0)) N = true ∧ CountIs ((127 : Nat) : Int) ((pwp 3 127 1 : Nat) : Int) (N : Int) ∧ 2 ≤ N ∧ N ≤ 20000 :=
  ⟨127, by decide +kernel, ⟨32, 20, 2, -7, 6, 6, 13, l1_127, l2_127, by decide +kernel, by decide +kernel, by decide +kernel, by decide +kernel, by decide +kernel, by decide +kernel⟩, by decide, by decide⟩
theorem n_127_2 : ∃ N : Nat, Nat.beq (Nat.add 1 (sumT (leaf 127 (pwp 3 127 2) (orT (sqp 127) 7 0)) 7 0)) N = true ∧ CountIs ((127 : Nat) : Int) ((pwp 3 127 2 : Nat) : Int) (N : Int) ∧ 2 ≤ N ∧ N ≤ 20000 :=
  ⟨147, by decide +kernel, ⟨32, 20, 2, -7, 6, 13, 7, l1_127, l2_127, by decide +kernel, by decide +kernel, by decide +kernel, by decide +kernel, by decide +kernel, by decide +kernel⟩, by decide, by decide⟩
theorem n_127_3 : ∃ N : Nat, Nat.beq (Nat.add 1 (sumT (leaf 127 (pwp 3 127 3) (orT (sqp 127) 7 0)) 7 0)) N = true ∧ CountIs ((127 : Nat) : Int) ((pwp 3 127 3 : Nat) : Int) (N : Int) ∧ 2 ≤ N ∧ N ≤ 20000 :=
  ⟨148, by decide +kernel, ⟨32, 20, 2, -7, 6, 7, -6, l1_127, l2_127, by decide +kernel, by decide +kernel, by decide +kernel, by decide +kernel, by decide +kernel, by decide +kernel⟩, by decide, by decide⟩
theorem n_127_4 : ∃ N : Nat, Nat.beq (Nat.add 1 (sumT (leaf 127 (pwp 3 127 4) (orT (sqp 127) 7 0)) 7 0)) N = true ∧ CountIs ((127 : Nat) : Int) ((pwp 3 127 4 : Nat) : Int) (N : Int) ∧ 2 ≤ N ∧ N ≤ 20000 :=
  ⟨129, by decide +kernel, ⟨32, 20, 2, -7, 6, -6, -13, l1_127, l2_127, by decide +kernel, by decide +kernel, by decide +kernel, by decide +kernel, by decide +kernel, by decide +kernel⟩, by decide, by decide⟩
theorem n_127_5 : ∃ N : Nat, Nat.beq (Nat.add 1 (sumT (leaf 127 (pwp 3 127 5) (orT (sqp 127) 7 0)) 7 0)) N = true ∧ CountIs ((127 : Nat) : Int) ((pwp 3 127 5 : Nat) : Int) (N : Int) ∧ 2 ≤ N ∧ N ≤ 20000 :=
  ⟨109, by decide +kernel, ⟨32, 20, 2, -7, 6, -13, -7, l1_127, l2_127, by decide +kernel, by decide +kernel, by decide +kernel, by decide +kernel, by decide +kernel, by decide +kernel⟩, by decide, by decide⟩
theorem g_127 : Nat.beq (Nat.lor (orT (pwp 3 127) 7 0) 1) (Nat.sub (Nat.pow 2 127) 1) = true := by decide +kernel
theorem o_127 : Nat.beq (pwp 3 127 (127 - 1)) 1 = true := by decide +kernel
def tab_127 : Tab 127 where
  g := 3
  k := 7
  seven := by decide
  twelve := by decide
  top := by decide
  hk := by decide
  all := g_127
  ord := o_127
  cnt := fun i h => match i, h with
    | 0, _ => n_127_0
    | 1, _ => n_127_1
    | 2, _ => n_127_2
    | 3, _ => n_127_3
    | 4, _ => n_127_4
    | 5, _ => n_127_5
    | i + 6, h => absurd h (by omega)
theorem l1_139 : loop1 ((139 : Nat) : Int) 20 1 = some 32 := by decide +kernel
theorem l2_139 : loop2 ((139 : Nat) : Int) 400 32 1 = some (23, 1) := by decide +kernel
theorem n_139_0 : ∃ N : Nat, Nat.beq (Nat.add 1 (sumT (leaf 139 (pwp 2 139 0) (orT (sqp 139) 8 0)) 8 0)) N = true ∧ CountIs ((139 : Nat) : Int) ((pwp 2 139 0 : Nat) : Int) (N : Int) ∧ 2 ≤ N ∧ N ≤ 20000 :=
  ⟨156, by decide +kernel, ⟨32, 23, 1, -10, 3, 13, 10, l1_139, l2_139, by decide +kernel, by decide +kernel, by decide +kernel, by decide +kernel, by decide +kernel, by decide +kernel⟩, by decide, by decide⟩
theorem n_139_1 : ∃ N : Nat, Nat.beq (Nat.add 1 (sumT (leaf 139 (pwp 2 139 1) (orT (sqp 139) 8 0)) 8 0)) N = true ∧ CountIs ((139 : Nat) : Int) ((pwp 2 139 1 : Nat) : Int) (N : Int) ∧ 2 ≤ N ∧ N ≤ 20000 :=
  ⟨163, by decide +kernel, ⟨32, 23, 1, -10, 3, 10, -3, l1_139, l2_139, by decide +kernel, by decide +kernel, by decide +kernel, by decide +kernel, by decide +kernel, by decide +kernel⟩, by decide, by decide⟩
theorem n_139_2 : ∃ N : Nat, Nat.beq (Nat.add 1 (sumT (leaf 139 (pwp 2 139 2) (orT (sqp 139) 8 0)) 8 0)) N = true ∧ CountIs ((139 : Nat) : Int) ((pwp 2 139 2 : Nat) : Int) (N : Int) ∧ 2 ≤ N ∧ N ≤ 20000 :=
  ⟨147, by decide +kernel, ⟨32, 23, 1, -10, 3, -3, -13, l1_139, l2_139, by decide +kernel, by decide +kernel, by decide +kernel, by decide +kernel, by decide +kernel, by decide +kernel⟩, by decide, by decide⟩
theorem n_139_3 : ∃ N : Nat, Nat.beq (Nat.add 1 (sumT (leaf 139 (pwp 2 139 3) (orT (sqp 139) 8 0)) 8 0)) N = true ∧ CountIs ((139 : Nat) : Int) ((pwp 2 139 3 : Nat) : Int) (N : Int) ∧ 2 ≤ N ∧ N ≤ 20000 :=
  ⟨124, by decide +kernel, ⟨32, 23, 1, -10, 3, -13, -10, l1_139, l2_139, by decide +kernel, by decide +kernel, by decide +kernel, by decide +kernel, by decide +kernel, by decide +kernel⟩, by decide, by decide⟩
theorem n_139_4 : ∃ N : Nat, Nat.beq (Nat.add 1 (sumT (leaf 139 (pwp 2 139 4) (orT (sqp 139) 8 0)) 8 0)) N = true ∧ CountIs ((139 : Nat) : Int) ((pwp 2 139 4 : Nat) : Int) (N : Int) ∧ 2 ≤ N ∧ N ≤ 20000 :=
  ⟨117, by decide +kernel, ⟨32, 23, 1, -10, 3, -10, 3, l1_139, l2_139, by decide +kernel, by decide +kernel, by decide +kernel, by decide +kernel, by decide +kernel, by decide +kernel⟩, by decide, by decide⟩
theorem n_139_5 : ∃ N : Nat, Nat.beq (Nat.add 1 (sumT (leaf 139 (pwp 2 139 5) (orT (sqp 139) 8 0)) 8 0)) N = true ∧ CountIs ((139 : Nat) : Int) ((pwp 2 139 5 : Nat) : Int) (N : Int) ∧ 2 ≤ N ∧ N ≤ 20000 :=
  ⟨133, by decide +kernel, ⟨32, 23, 1, -10, 3, 3, 13, l1_139, l2_139, by decide +kernel, by decide +kernel, by decide +kernel, by decide +kernel, by decide +kernel, by decide +kernel⟩, by decide, by decide⟩
theorem g_139 : Nat.beq (Nat.lor (orT (pwp 2 139) 8 0) 1) (Nat.sub (Nat.pow 2 139) 1) = true := by decide +kernel
theorem o_139 : Nat.beq (pwp 2 139 (139 - 1)) 1 = true := by decide +kernel
def tab_139 : Tab 139 where
  g := 2
  k := 8
  seven := by decide
  twelve := by decide
  top := by decide
  hk := by decide
  all := g_139
  ord := o_139
  cnt := fun i h => match i, h with
    | 0, _ => n_139_0
    | 1, _ => n_139_1
    | 2, _ => n_139_2
    | 3, _ => n_139_3
    | 4, _ => n_139_4
    | 5, _ => n_139_5
    | i + 6, h => absurd h (by omega)
theorem l1_151 : loop1 ((151 : Nat) : Int) 20 1 = some 32 := by decide +kernel
theorem l2_151 : loop2 ((151 : Nat) : Int) 400 32 1 = some (19, 3) := by decide +kernel
theorem n_151_0 : ∃ N : Nat, Nat.beq (Nat.add 1 (sumT (leaf 151 (pwp 6 151 0) (orT (sqp 151) 8 0)) 8 0)) N = true ∧ CountIs ((151 : Nat) : Int) ((pwp 6 151 0 : Nat) : Int) (N : Int) ∧ 2 ≤ N ∧ N ≤ 20000 :=
  ⟨156, by decide +kernel, ⟨32, 19, 3, 14, 9, -5, -14, l1_151, l2_151, by decide +kernel, by decide +kernel, by decide +kernel, by decide +kernel, by decide +kernel, by decide +kernel⟩, by decide, by decide⟩
theorem n_151_1 : ∃ N : Nat, Nat.beq (Nat.add 1 (sumT (leaf 151 (pwp 6 151 1) (orT (sqp 151) 8 0)) 8 0)) N = true ∧ CountIs ((151 : Nat) : Int) ((pwp 6 151 1 : Nat) : Int) (N : Int) ∧ 2 ≤ N ∧ N ≤ 20000 :=
  ⟨133, by decide +kernel, ⟨32, 19, 3, 14, 9, -14, -9, l1_151, l2_151, by decide +kernel, by decide +kernel, by decide +kernel, by decide +kernel, by decide +kernel, by decide +kernel⟩, by decide, by decide⟩
theorem n_151_2 : ∃ N : Nat, Nat.beq (Nat.add 1 (sumT (leaf 151 (pwp 6 151 2) (orT (sqp 151) 8 0)) 8 0)) N = true ∧ CountIs ((151 : Nat) : Int) ((pwp 6 151 2 : Nat) : Int) (N : Int) ∧ 2 ≤ N ∧ N ≤ 20000 :=
  ⟨129, by decide +kernel, ⟨32, 19, 3, 14, 9, -9, 5, l1_151, l2_151, by decide +kernel, by decide +kernel, by decide +kernel, by decide +kernel, by decide +kernel, by decide +kernel⟩, by decide, by decide⟩
theorem n_151_3 : ∃ N : Nat, Nat.beq (Nat.add 1 (sumT (leaf 151 (pwp 6 151 3) (orT (sqp 151) 8 0)) 8 0)) N = true ∧ CountIs ((151 : Nat) : Int) ((pwp 6 151 3 : Nat) : Int) (N : Int) ∧ 2 ≤ N ∧ N ≤ 20000 :=
  ⟨148, by decide +kernel, ⟨32, 19, 3, 14, 9, 5, 14, l1_151, l2_151, by decide +kernel, by decide +kernel, by decide +kernel, by decide +kernel, by decide +kernel, by decide +kernel⟩, by decide, by decide⟩
theorem n_151_4 : ∃ N : Nat, Nat.beq (Nat.add 1 (sumT (leaf 151 (pwp 6 151 4) (orT (sqp 151) 8 0)) 8 0)) N = true ∧ CountIs ((151 : Nat) : Int) ((pwp 6 151 4 : Nat) : Int) (N : Int) ∧ 2 ≤ N ∧ N ≤ 20000 :=
  ⟨171, by decide +kernel, ⟨32, 19, 3, 14, 9, 14, 9, l1_151, l2_151, by decide +kernel, by decide +kernel, by decide +kernel, by decide +kernel, by decide +kernel, by decide +kernel⟩, by decide, by decide⟩
theorem n_151_5 : ∃ N : Nat, Nat.beq (Nat.add 1 (sumT (leaf 151 (pwp 6 151 5) (orT (sqp 151) 8 0)) 8 0)) N = true ∧ CountIs ((151 : Nat) : Int) ((pwp 6 151 5 : Nat) : Int) (N : Int) ∧ 2 ≤ N ∧ N ≤ 20000 :=
  ⟨175, by decide +kernel, ⟨32, 19, 3, 14, 9, 9, -5, l1_151, l2_151, by decide +kernel, by decide +kernel, by decide +kernel, by decide +kernel, by decide +kernel, by decide +kernel⟩, by decide, by decide⟩
theorem g_151 : Nat.beq (Nat.lor (orT (pwp 6 151) 8 0) 1) (Nat.sub (Nat.pow 2 151) 1) = true := by decide +kernel
theorem o_151 : Nat.beq (pwp 6 151 (151 - 1)) 1 = true := by decide +kernel
def tab_151 : Tab 151 where
  g := 6
  k := 8
  seven := by decide
  twelve := by decide
  top := by decide
  hk := by decide
  all := g_151
  ord := o_151
  cnt := fun i h => match i, h with
    | 0, _ => n_151_0
    | 1, _ => n_151_1
    | 2, _ => n_151_2
    | 3, _ => n_151_3
    | 4, _ => n_151_4
    | 5, _ => n_151_5
    | i + 6, h => absurd h (by omega)
theorem l1_163 : loop1 ((163 : Nat) : Int) 20 1 = some 32 := by decide +kernel
theorem l2_163 : loop2 ((163 : Nat) : Int) 400 32 1 = some (25, 1) := by decide +kernel
theorem n_163_0 : ∃ N : Nat, Nat.beq (Nat.add 1 (sumT (leaf 163 (pwp 2 163 0) (orT (sqp 163) 8 0)) 8 0)) N = true ∧ CountIs ((163 : Nat) : Int) ((pwp 2 163 0 : Nat) : Int) (N : Int) ∧ 2 ≤ N ∧ N ≤ 20000 :=
  ⟨156, by decide +kernel, ⟨32, 25, 1, 14, 3, -11, -14, l1_163, l2_163, by decide +kernel, by decide +kernel, by decide +kernel, by decide +kernel, by decide +kernel, by decide +kernel⟩, by decide, by decide⟩
theorem n_163_1 : ∃ N : Nat, Nat.beq (Nat.add 1 (sumT (leaf 163 (pwp 2 163 1) (orT (sqp 163) 8 0)) 8 0)) N = true ∧ CountIs ((163 : Nat) : Int) ((pwp 2 163 1 : Nat) : Int) (N : Int) ∧ 2 ≤ N ∧ N ≤ 20000 :=
  ⟨139, by decide +kernel, ⟨32, 25, 1, 14, 3, -14, -3, l1_163, l2_163, by decide +kernel, by decide +kernel, by decide +kernel, by decide +kernel, by decide +kernel, by decide +kernel⟩, by decide, by decide⟩
theorem n_163_2 : ∃ N : Nat, Nat.beq (Nat.add 1 (sumT (leaf 163 (pwp 2 163 2) (orT (sqp 163) 8 0)) 8 0)) N = true ∧ CountIs ((163 : Nat) : Int) ((pwp 2 163 2 : Nat) : Int) (N : Int) ∧ 2 ≤ N ∧ N ≤ 20000 :=
  ⟨147, by decide +kernel, ⟨32, 25, 1, 14, 3, -3, 11, l1_163, l2_163, by decide +kernel, by decide +kernel, by decide +kernel, by decide +kernel, by decide +kernel, by decide +kernel⟩, by decide, by decide⟩
theorem n_163_3 : ∃ N : Nat, Nat.beq (Nat.add 1 (sumT (leaf 163 (pwp 2 163 3) (orT (sqp 163) 8 0)) 8 0)) N = true ∧ CountIs ((163 : Nat) : Int) ((pwp 2 163 3 : Nat) : Int) (N : Int) ∧ 2 ≤ N ∧ N ≤ 20000 :=
  ⟨172, by decide +kernel, ⟨32, 25, 1, 14, 3, 11, 14, l1_163, l2_163, by decide +kernel, by decide +kernel, by decide +kernel, by decide +kernel, by decide +kernel, by decide +kernel⟩, by decide, by decide⟩
theorem n_163_4 : ∃ N : Nat, Nat.beq (Nat.add 1 (sumT (leaf 163 (pwp 2 163 4) (orT (sqp 163) 8 0)) 8 0)) N = true ∧ CountIs ((163 : Nat) : Int) ((pwp 2 163 4 : Nat) : Int) (N : Int) ∧ 2 ≤ N ∧ N ≤ 20000 :=
  ⟨189, by decide +kernel, ⟨32, 25, 1, 14, 3, 14, 3, l1_163, l2_163, by decide +kernel, by decide +kernel, by decide +kernel, by decide +kernel, by decide +kernel, by decide +kernel⟩, by decide, by decide⟩
theorem n_163_5 : ∃ N : Nat, Nat.beq (Nat.add 1 (sumT (leaf 163 (pwp 2 163 5) (orT (sqp 163) 8 0)) 8 0)) N = true ∧ CountIs ((163 : Nat) : Int) ((pwp 2 163 5 : Nat) : Int) (N : Int) ∧ 2 ≤ N ∧ N ≤ 20000 :=
  ⟨181, by decide +kernel, ⟨32, 25, 1, 14, 3, 3, -11, l1_163, l2_163, by decide +kernel, by decide +kernel, by decide +kernel, by decide +kernel, by decide +kernel, by decide +kernel⟩, by decide, by decide⟩
theorem g_163 : Nat.beq (Nat.lor (orT (pwp 2 163) 8 0) 1) (Nat.sub (Nat.pow 2 163) 1) = true := by decide +kernel
theorem o_163 : Nat.beq (pwp 2 163 (163 - 1)) 1 = true := by decide +kernel
def tab_163 : Tab 163 where
  g := 2
  k := 8
  seven := by decide
  twelve := by decide
  top := by decide
  hk := by decide
  all := g_163
  ord := o_163
  cnt := fun i h => match i, h with
    | 0, _ => n_163_0
    | 1, _ => n_163_1
    | 2, _ => n_163_2
    | 3, _ => n_163_3
    | 4, _ => n_163_4
    | 5, _ => n_163_5
    | i + 6, h => absurd h (by omega)
theorem l1_199 : loop1 ((199 : Nat) : Int) 20 1 = some 32 := by decide +kernel
theorem l2_199 : loop2 ((199 : Nat) : Int) 400 32 1 = some (11, 5) := by decide +kernel
theorem n_199_0 : ∃ N : Nat, Nat.beq (Nat.add 1 (sumT (leaf 199 (pwp 3 199 0) (orT (sqp 199) 8 0)) 8 0)) N = true ∧ CountIs ((199 : Nat) : Int) ((pwp 3 199 0 : Nat) : Int) (N : Int) ∧ 2 ≤ N ∧ N ≤ 20000 :=
  ⟨228, by decide +kernel, ⟨32, 11, 5, 2, 15, 13, -2, l1_199, l2_199, by decide +kernel, by decide +kernel, by decide +kernel, by decide +kernel, by decide +kernel, by decide +kernel⟩, by decide, by decide⟩
theorem n_199_1 : ∃ N : Nat, Nat.beq (Nat.add 1 (sumT (leaf 199 (pwp 3 199 1) (orT (sqp 199) 8 0)) 8 0)) N = true ∧ CountIs ((199 : Nat) : Int) ((pwp 3 199 1 : Nat) : Int) (N : Int) ∧ 2 ≤ N ∧ N ≤ 20000 :=
  ⟨211, by decide +kernel, ⟨32, 11, 5, 2, 15, -2, -15, l1_199, l2_199, by decide +kernel, by decide +kernel, by decide +kernel, by decide +kernel, by decide +kernel, by decide +kernel⟩, by decide, by decide⟩
theorem n_199_2 : ∃ N : Nat, Nat.beq (Nat.add 1 (sumT (leaf 199 (pwp 3 199 2) (orT (sqp 199) 8 0)) 8 0)) N = true ∧ CountIs ((199 : Nat) : Int) ((pwp 3 199 2 : Nat) : Int) (N : Int) ∧ 2 ≤ N ∧ N ≤ 20000 :=
  ⟨183, by decide +kernel, ⟨32, 11, 5, 2, 15, -15, -13, l1_199, l2_199, by decide +kernel, by decide +kernel, by decide +kernel, by decide +kernel, by decide +kernel, by decide +kernel⟩, by decide, by decide⟩
theorem n_199_3 : ∃ N : Nat, Nat.beq (Nat.add 1 (sumT (leaf 199 (pwp 3 199 3) (orT (sqp 199) 8 0)) 8 0)) N = true ∧ CountIs ((199 : Nat) : Int) ((pwp 3 199 3 : Nat) : Int) (N : Int) ∧ 2 ≤ N ∧ N ≤ 20000 :=
  ⟨172, by decide +kernel, ⟨32, 11, 5, 2, 15, -13, 2, l1_199, l2_199, by decide +kernel, by decide +kernel, by decide +kernel, by decide +kernel, by decide +kernel, by decide +kernel⟩, by decide, by decide⟩
theorem n_199_4 : ∃ N : Nat, Nat.beq (Nat.add 1 (sumT (leaf 199 (pwp 3 199 4) (orT (sqp 199) 8 0)) 8 0)) N = true ∧ CountIs ((199 : Nat) : Int) ((pwp 3 199 4 : Nat) : Int) (N : Int) ∧ 2 ≤ N ∧ N ≤ 20000 :=
  ⟨189, by decide +kernel, ⟨32, 11, 5, 2, 15, 2, 15, l1_199, l2_199, by decide +kernel, by decide +kernel, by decide +kernel, by decide +kernel, by decide +kernel, by decide +kernel⟩, by decide, by decide⟩
theorem n_199_5 : ∃ N : Nat, Nat.beq (Nat.add 1 (sumT (leaf 199 (pwp 3 199 5) (orT (sqp 199) 8 0)) 8 0)) N = true ∧ CountIs ((199 : Nat) : Int) ((pwp 3 199 5 : Nat) : Int) (N : Int) ∧ 2 ≤ N ∧ N ≤ 20000 :=
  ⟨217, by decide +kernel, ⟨32, 11, 5, 2, 15, 15, 13, l1_199, l2_199, by decide +kernel, by decide +kernel, by decide +kernel, by decide +kernel, by decide +kernel, by decide +kernel⟩, by decide, by decide⟩
theorem g_199 : Nat.beq (Nat.lor (orT (pwp 3 199) 8 0) 1) (Nat.sub (Nat.pow 2 199) 1) = true := by decide +kernel
theorem o_199 : Nat.beq (pwp 3 199 (199 - 1)) 1 = true := by decide +kernel
def tab_199 : Tab 199 where
  g := 3
  k := 8
  seven := by decide
  twelve := by decide
  top := by decide
  hk := by decide
  all := g_199
  ord := o_199
  cnt := fun i h => match i, h with
    | 0, _ => n_199_0
    | 1, _ => n_199_1
    | 2, _ => n_199_2
    | 3, _ => n_199_3
    | 4, _ => n_199_4
    | 5, _ => n_199_5
    | i + 6, h => absurd h (by omega)
theorem l1_211 : loop1 ((211 : Nat) : Int) 20 1 = some 32 := by decide +kernel
theorem l2_211 : loop2 ((211 : Nat) : Int) 400 32 1 = some (13, 5) := by decide +kernel
theorem n_211_0 : ∃ N : Nat, Nat.beq (Nat.add 1 (sumT (leaf 211 (pwp 2 211 0) (orT (sqp 211) 8 0)) 8 0)) N = true ∧ CountIs ((211 : Nat) : Int) ((pwp 2 211 0 : Nat) : Int) (N : Int) ∧ 2 ≤ N ∧ N ≤ 20000 :=
  ⟨228, by decide +kernel, ⟨32, 13, 5, 14, 15, 1, -14, l1_211, l2_211, by decide +kernel, by decide +kernel, by decide +kernel, by decide +kernel, by decide +kernel, by decide +kernel⟩, by decide, by decide⟩
theorem n_211_1 : ∃ N : Nat, Nat.beq (Nat.add 1 (sumT (leaf 211 (pwp 2 211 1) (orT (sqp 211) 8 0)) 8 0)) N = true ∧ CountIs ((211 : Nat) : Int) ((pwp 2 211 1 : Nat) : Int) (N : Int) ∧ 2 ≤ N ∧ N ≤ 20000 :=
  ⟨199, by decide +kernel, ⟨32, 13, 5, 14, 15, -14, -15, l1_211, l2_211, by decide +kernel, by decide +kernel, by decide +kernel, by decide +kernel, by decide +kernel, by decide +kernel⟩, by decide, by decide⟩
theorem n_211_2 : ∃ N : Nat, Nat.beq (Nat.add 1 (sumT (leaf 211 (pwp 2 211 2) (orT (sqp 211) 8 0)) 8 0)) N = true ∧ CountIs ((211 : Nat) : Int) ((pwp 2 211 2 : Nat) : Int) (N : Int) ∧ 2 ≤ N ∧ N ≤ 20000 :=
  ⟨183, by decide +kernel, ⟨32, 13, 5, 14, 15, -15, -1, l1_211, l2_211, by decide +kernel, by decide +kernel, by decide +kernel, by decide +kernel, by decide +kernel, by decide +kernel⟩, by decide, by decide⟩
theorem n_211_3 : ∃ N : Nat, Nat.beq (Nat.add 1 (sumT (leaf 211 (pwp 2 211 3) (orT (sqp 211) 8 0)) 8 0)) N = true ∧ CountIs ((211 : Nat) : Int) ((pwp 2 211 3 : Nat) : Int) (N : Int) ∧ 2 ≤ N ∧ N ≤ 20000 :=
  ⟨196, by decide +kernel, ⟨32, 13, 5, 14, 15, -1, 14, l1_211, l2_211, by decide +kernel, by decide +kernel, by decide +kernel, by decide +kernel, by decide +kernel, by decide +kernel⟩, by decide, by decide⟩
theorem n_211_4 : ∃ N : Nat, Nat.beq (Nat.add 1 (sumT (leaf 211 (pwp 2 211 4) (orT (sqp 211) 8 0)) 8 0)) N = true ∧ CountIs ((211 : Nat) : Int) ((pwp 2 211 4 : Nat) : Int) (N : Int) ∧ 2 ≤ N ∧ N ≤ 20000 :=
  ⟨225, by decide +kernel, ⟨32, 13, 5, 14, 15, 14, 15, l1_211, l2_211, by decide +kernel, by decide +kernel, by decide +kernel, by decide +kernel, by decide +kernel, by decide +kernel⟩, by decide, by decide⟩
theorem n_211_5 : ∃ N : Nat, Nat.beq (Nat.add 1 (sumT (leaf 211 (pwp 2 211 5) (orT (sqp 211) 8 0)) 8 0)) N = true ∧ CountIs ((211 : Nat) : Int) ((pwp 2 211 5 : Nat) : Int) (N : Int) ∧ 2 ≤ N ∧ N ≤ 20000 :=
  ⟨241, by decide +kernel, ⟨32, 13, 5, 14, 15, 15, 1, l1_211, l2_211, by decide +kernel, by decide +kernel, by decide +kernel, by decide +kernel, by decide +kernel, by decide +kernel⟩, by decide, by decide⟩
theorem g_211 : Nat.beq (Nat.lor (orT (pwp 2 211) 8 0) 1) (Nat.sub (Nat.pow 2 211) 1) = true := by decide +kernel
theorem o_211 : Nat.beq (pwp 2 211 (211 - 1)) 1 = true := by decide +kernel
def tab_211 : Tab 211 where
  g := 2
  k := 8
  seven := by decide
  twelve := by decide
  top := by decide
  hk := by decide
  all := g_211
  ord := o_211
  cnt := fun i h => match i, h with
    | 0, _ => n_211_0
    | 1, _ => n_211_1
    | 2, _ => n_211_2
    | 3, _ => n_211_3
    | 4, _ => n_211_4
    | 5, _ => n_211_5
    | i + 6, h => absurd h (by omega)
theorem l1_223 : loop1 ((223 : Nat) : Int) 20 1 = some 32 := by decide +kernel
theorem l2_223 : loop2 ((223 : Nat) : Int) 400 32 1 = some (28, 2) := by decide +kernel
theorem n_223_0 : ∃ N : Nat, Nat.beq (Nat.add 1 (sumT (leaf 223 (pwp 3 223 0) (orT (sqp 223) 8 0)) 8 0)) N = true ∧ CountIs ((223 : Nat) : Int) ((pwp 3 223 0 : Nat) : Int) (N : Int) ∧ 2 ≤ N ∧ N ≤ 20000 :=
  ⟨252, by decide +kernel, ⟨32, 28, 2, 17, 6, 17, 6, l1_223, l2_223, by decide +kernel, by decide +kernel, by decide +kernel, by decide +kernel, by decide +kernel, by decide +kernel⟩, by decide, by decide⟩
theorem n_223_1 : ∃ N : Nat, Nat.beq (Nat.add 1 (sumT (leaf 223 (pwp 3 223 1) (orT (sqp 223) 8 0)) 8 0)) N = true ∧ CountIs ((223 : Nat) : Int) ((pwp 3 223 1 : Nat) : Int) (N : Int) ∧ 2 ≤ N ∧ N ≤ 20000 :=
  ⟨247, by decide +kernel, ⟨32, 28, 2, 17, 6, 6, -11, l1_223, l2_223, by decide +kernel, by decide +kernel, by decide +kernel, by decide +kernel, by decide +kernel, by decide +kernel⟩, by decide, by decide⟩
theorem n_223_2 : ∃ N : Nat, Nat.beq (Nat.add 1 (sumT (leaf 223 (pwp 3 223 2) (orT (sqp 223) 8 0)) 8 0)) N = true ∧ CountIs ((223 : Nat) : Int) ((pwp 3 223 2 : Nat) : Int) (N : Int) ∧ 2 ≤ N ∧ N ≤ 20000 :=
  ⟨219, by decide +kernel, ⟨32, 28, 2, 17, 6, -11, -17, l1_223, l2_223, by decide +kernel, by decide +kernel, by decide +kernel, by decide +kernel, by decide +kernel, by decide +kernel⟩, by decide, by decide⟩
theorem n_223_3 : ∃ N : Nat, Nat.beq (Nat.add 1 (sumT (leaf 223 (pwp 3 223 3) (orT (sqp 223) 8 0)) 8 0)) N = true ∧ CountIs ((223 : Nat) : Int) ((pwp 3 223 3 : Nat) : Int) (N : Int) ∧ 2 ≤ N ∧ N ≤ 20000 :=
  ⟨196, by decide +kernel, ⟨32, 28, 2, 17, 6, -17, -6, l1_223, l2_223, by decide +kernel, by decide +kernel, by decide +kernel, by decide +kernel, by decide +kernel, by decide +kernel⟩, by decide, by decide⟩
theorem n_223_4 : ∃ N : Nat, Nat.beq (Nat.add 1 (sumT (leaf 223 (pwp 3 223 4) (orT (sqp 223) 8 0)) 8 0)) N = true ∧ CountIs ((223 : Nat) : Int) ((pwp 3 223 4 : Nat) : Int) (N : Int) ∧ 2 ≤ N ∧ N ≤ 20000 :=
  ⟨201, by decide +kernel, ⟨32, 28, 2, 17, 6, -6, 11, l1_223, l2_223, by decide +kernel, by decide +kernel, by decide +kernel, by decide +kernel, by decide +kernel, by decide +kernel⟩, by decide, by decide⟩
theorem n_223_5 : ∃ N : Nat, Nat.beq (Nat.add 1 (sumT (leaf 223 (pwp 3 223 5) (orT (sqp 223) 8 0)) 8 0)) N = true ∧ CountIs ((223 : Nat) : Int) ((pwp 3 223 5 : Nat) : Int) (N : Int) ∧ 2 ≤ N ∧ N ≤ 20000 :=
  ⟨229, by decide +kernel, ⟨32, 28, 2, 17, 6, 11, 17, l1_223, l2_223, by decide +kernel, by decide +kernel, by decide +kernel, by decide +kernel, by decide +kernel, by decide +kernel⟩, by decide, by decide⟩
theorem g_223 : Nat.beq (Nat.lor (orT (pwp 3 223) 8 0) 1) (Nat.sub (Nat.pow 2 223) 1) = true := by decide +kernel
theorem o_223 : Nat.beq (pwp 3 223 (223 - 1)) 1 = true := by decide +kernel
def tab_223 : Tab 223 where
  g := 3
  k := 8
  seven := by decide
  twelve := by decide
  top := by decide
  hk := by decide
  all := g_223
  ord := o_223
  cnt := fun i h => match i, h with
    | 0, _ => n_223_0
    | 1, _ => n_223_1
    | 2, _ => n_223_2
    | 3, _ => n_223_3
    | 4, _ => n_223_4
    | 5, _ => n_223_5
    | i + 6, h => absurd h (by omega)
theorem l1_1039 : loop1 ((1039 : Nat) : Int) 20 1 = some 128 := by decide +kernel
theorem l2_1039 : loop2 ((1039 : Nat) : Int) 400 128 1 = some (59, 5) := by decide +kernel
theorem n_1039_0 : ∃ N : Nat, Nat.beq (Nat.add 1 (sumT (leaf 1039 (pwp 3 1039 0) (orT (sqp 1039) 11 0)) 11 0)) N = true ∧ CountIs ((1039 : Nat) : Int) ((pwp 3 1039 0 : Nat) : Int) (N : Int) ∧ 2 ≤ N ∧ N ≤ 20000 :=
  ⟨1092, by decide +kernel, ⟨128, 59, 5, -22, 15, 37, 22, l1_1039, l2_1039, by decide +kernel, by decide +kernel, by decide +kernel, by decide +kernel, by decide +kernel, by decide +kernel⟩, by decide, by decide⟩
theorem n_1039_1 : ∃ N : Nat, Nat.beq (Nat.add 1 (sumT (leaf 1039 (pwp 3 1039 1) (orT (sqp 1039) 11 0)) 11 0)) N = true ∧ CountIs ((1039 : Nat) : Int) ((pwp 3 1039 1 : Nat) : Int) (N : Int) ∧ 2 ≤ N ∧ N ≤ 20000 :=
  ⟨1099, by decide +kernel, ⟨128, 59, 5, -22, 15, 22, -15, l1_1039, l2_1039, by decide +kernel, by decide +kernel, by decide +kernel, by decide +kernel, by decide +kernel, by decide +kernel⟩, by decide, by decide⟩
theorem n_1039_2 : ∃ N : Nat, Nat.beq (Nat.add 1 (sumT (leaf 1039 (pwp 3 1039 2) (orT (sqp 1039) 11 0)) 11 0)) N = true ∧ CountIs ((1039 : Nat) : Int) ((pwp 3 1039 2 : Nat) : Int) (N : Int) ∧ 2 ≤ N ∧ N ≤ 20000 :=
  ⟨1047, by decide +kernel, ⟨128, 59, 5, -22, 15, -15, -37, l1_1039, l2_1039, by decide +kernel, by decide +kernel, by decide +kernel, by decide +kernel, by decide +kernel, by decide +kernel⟩, by decide, by decide⟩
theorem n_1039_3 : ∃ N : Nat, Nat.beq (Nat.add 1 (sumT (leaf 1039 (pwp 3 1039 3) (orT (sqp 1039) 11 0)) 11 0)) N = true ∧ CountIs ((1039 : Nat) : Int) ((pwp 3 1039 3 : Nat) : Int) (N : Int) ∧ 2 ≤ N ∧ N ≤ 20000 :=
  ⟨988, by decide +kernel, ⟨128, 59, 5, -22, 15, -37, -22, l1_1039, l2_1039, by decide +kernel, by decide +kernel, by decide +kernel, by decide +kernel, by decide +kernel, by decide +kernel⟩, by decide, by decide⟩
theorem n_1039_4 : ∃ N : Nat, Nat.beq (Nat.add 1 (sumT (leaf 1039 (pwp 3 1039 4) (orT (sqp 1039) 11 0)) 11 0)) N = true ∧ CountIs ((1039 : Nat) : Int) ((pwp 3 1039 4 : Nat) : Int) (N : Int) ∧ 2 ≤ N ∧ N ≤ 20000 :=
  ⟨981, by decide +kernel, ⟨128, 59, 5, -22, 15, -22, 15, l1_1039, l2_1039, by decide +kernel, by decide +kernel, by decide +kernel, by decide +kernel, by decide +kernel, by decide +kernel⟩, by decide, by decide⟩
theorem n_1039_5 : ∃ N : Nat, Nat.beq (Nat.add 1 (sumT (leaf 1039 (pwp 3 1039 5) (orT (sqp 1039) 11 0)) 11 0)) N = true ∧ CountIs ((1039 : Nat) : Int) ((pwp 3 1039 5 : Nat) : Int) (N : Int) ∧ 2 ≤ N ∧ N ≤ 20000 :=
  ⟨1033, by decide +kernel, ⟨128, 59, 5, -22, 15, 15, 37, l1_1039, l2_1039, by decide +kernel, by decide +kernel, by decide +kernel, by decide +kernel, by decide +kernel, by decide +kernel⟩, by decide, by decide⟩
theorem g_1039 : Nat.beq (Nat.lor (orT (pwp 3 1039) 11 0) 1) (Nat.sub (Nat.pow 2 1039) 1) = true := by decide +kernel
theorem o_1039 : Nat.beq (pwp 3 1039 (1039 - 1)) 1 = true := by decide +kernel
def tab_1039 : Tab 1039 where
  g := 3
  k := 11
  seven := by decide
  twelve := by decide
  top := by decide
  hk := by decide
  all := g_1039
  ord := o_1039
  cnt := fun i h => match i, h with
    | 0, _ => n_1039_0
    | 1, _ => n_1039_1
    | 2, _ => n_1039_2
    | 3, _ => n_1039_3
    | 4, _ => n_1039_4
    | 5, _ => n_1039_5
    | i + 6, h => absurd h (by omega)
theorem l1_2011 : loop1 ((2011 : Nat) : Int) 20 1 = some 128 := by decide +kernel
theorem l2_2011 : loop2 ((2011 : Nat) : Int) 400 128 1 = some (59, 13) := by decide +kernel
theorem n_2011_0 : ∃ N : Nat, Nat.beq (Nat.add 1 (sumT (leaf 2011 (pwp 3 2011 0) (orT (sqp 2011) 11 0)) 11 0)) N = true ∧ CountIs ((2011 : Nat) : Int) ((pwp 3 2011 0 : Nat) : Int) (N : Int) ∧ 2 ≤ N ∧ N ≤ 20000 :=
  ⟨2100, by decide +kernel, ⟨128, 59, 13, -10, 39, 49, 10, l1_2011, l2_2011, by decide +kernel, by decide +kernel, by decide +kernel, by decide +kernel, by decide +kernel, by decide +kernel⟩, by decide, by decide⟩
theorem n_2011_1 : ∃ N : Nat, Nat.beq (Nat.add 1 (sumT (leaf 2011 (pwp 3 2011 1) (orT (sqp 2011) 11 0)) 11 0)) N = true ∧ CountIs ((2011 : Nat) : Int) ((pwp 3 2011 1 : Nat) : Int) (N : Int) ∧ 2 ≤ N ∧ N ≤ 20000 :=
  ⟨2041, by decide +kernel, ⟨128, 59, 13, -10, 39, 39, 49, l1_2011, l2_2011, by decide +kernel, by decide +kernel, by decide +kernel, by decide +kernel, by decide +kernel, by decide +kernel⟩, by decide, by decide⟩
theorem n_2011_2 : ∃ N : Nat, Nat.beq (Nat.add 1 (sumT (leaf 2011 (pwp 3 2011 2) (orT (sqp 2011) 11 0)) 11 0)) N = true ∧ CountIs ((2011 : Nat) : Int) ((pwp 3 2011 2 : Nat) : Int) (N : Int) ∧ 2 ≤ N ∧ N ≤ 20000 :=
  ⟨1953, by decide +kernel, ⟨128, 59, 13, -10, 39, -10, 39, l1_2011, l2_2011, by decide +kernel, by decide +kernel, by decide +kernel, by decide +kernel, by decide +kernel, by decide +kernel⟩, by decide, by decide⟩
theorem n_2011_3 : ∃ N : Nat, Nat.beq (Nat.add 1 (sumT (leaf 2011 (pwp 3 2011 3) (orT (sqp 2011) 11 0)) 11 0)) N = true ∧ CountIs ((2011 : Nat) : Int) ((pwp 3 2011 3 : Nat) : Int) (N : Int) ∧ 2 ≤ N ∧ N ≤ 20000 :=
  ⟨1924, by decide +kernel, ⟨128, 59, 13, -10, 39, -49, -10, l1_2011, l2_2011, by decide +kernel, by decide +kernel, by decide +kernel, by decide +kernel, by decide +kernel, by decide +kernel⟩, by decide, by decide⟩
theorem n_2011_4 : ∃ N : Nat, Nat.beq (Nat.add 1 (sumT (leaf 2011 (pwp 3 2011 4) (orT (sqp 2011) 11 0)) 11 0)) N = true ∧ CountIs ((2011 : Nat) : Int) ((pwp 3 2011 4 : Nat) : Int) (N : Int) ∧ 2 ≤ N ∧ N ≤ 20000 :=
  ⟨1983, by decide +kernel, ⟨128, 59, 13, -10, 39, -39, -49, l1_2011, l2_2011, by decide +kernel, by decide +kernel, by decide +kernel, by decide +kernel, by decide +kernel, by decide +kernel⟩, by decide, by decide⟩
theorem n_2011_5 : ∃ N : Nat, Nat.beq (Nat.add 1 (sumT (leaf 2011 (pwp 3 2011 5) (orT (sqp 2011) 11 0)) 11 0)) N = true ∧ CountIs ((2011 : Nat) : Int) ((pwp 3 2011 5 : Nat) : Int) (N : Int) ∧ 2 ≤ N ∧ N ≤ 20000 :=
  ⟨2071, by decide +kernel, ⟨128, 59, 13, -10, 39, 10, -39, l1_2011, l2_2011, by decide +kernel, by decide +kernel, by decide +kernel, by decide +kernel, by decide +kernel, by decide +kernel⟩, by decide, by decide⟩
theorem g_2011 : Nat.beq (Nat.lor (orT (pwp 3 2011) 11 0) 1) (Nat.sub (Nat.pow 2 2011) 1) = true := by decide +kernel
theorem o_2011 : Nat.beq (pwp 3 2011 (2011 - 1)) 1 = true := by decide +kernel
def tab_2011 : Tab 2011 where
  g := 3
  k := 11
  seven := by decide
  twelve := by decide
  top := by decide
  hk := by decide
  all := g_2011
  ord := o_2011
  cnt := fun i h => match i, h with
    | 0, _ => n_2011_0
    | 1, _ => n_2011_1
    | 2, _ => n_2011_2
    | 3, _ => n_2011_3
    | 4, _ => n_2011_4
    | 5, _ => n_2011_5
    | i + 6, h => absurd h (by omega)
theorem l1_4003 : loop1 ((4003 : Nat) : Int) 20 1 = some 128 := by decide +kernel
theorem l2_4003 : loop2 ((4003 : Nat) : Int) 400 128 1 = some (107, 13) := by decide +kernel
theorem n_4003_0 : ∃ N : Nat, Nat.beq (Nat.add 1 (sumT (leaf 4003 (pwp 2 4003 0) (orT (sqp 4003) 12 0)) 12 0)) N = true ∧ CountIs ((4003 : Nat) : Int) ((pwp 2 4003 0 : Nat) : Int) (N : Int) ∧ 2 ≤ N ∧ N ≤ 20000 :=
  ⟨4116, by decide +kernel, ⟨128, 107, 13, -34, 39, 73, 34, l1_4003, l2_4003, by decide +kernel, by decide +kernel, by decide +kernel, by decide +kernel, by decide +kernel, by decide +kernel⟩, by decide, by decide⟩
theorem n_4003_1 : ∃ N : Nat, Nat.beq (Nat.add 1 (sumT (leaf 4003 (pwp 2 4003 1) (orT (sqp 4003) 12 0)) 12 0)) N = true ∧ CountIs ((4003 : Nat) : Int) ((pwp 2 4003 1 : Nat) : Int) (N : Int) ∧ 2 ≤ N ∧ N ≤ 20000 :=
  ⟨4111, by decide +kernel, ⟨128, 107, 13, -34, 39, 34, -39, l1_4003, l2_4003, by decide +kernel, by decide +kernel, by decide +kernel, by decide +kernel, by decide +kernel, by decide +kernel⟩, by decide, by decide⟩
theorem n_4003_2 : ∃ N : Nat, Nat.beq (Nat.add 1 (sumT (leaf 4003 (pwp 2 4003 2) (orT (sqp 4003) 12 0)) 12 0)) N = true ∧ CountIs ((4003 : Nat) : Int) ((pwp 2 4003 2 : Nat) : Int) (N : Int) ∧ 2 ≤ N ∧ N ≤ 20000 :=
  ⟨3999, by decide +kernel, ⟨128, 107, 13, -34, 39, -39, -73, l1_4003, l2_4003, by decide +kernel, by decide +kernel, by decide +kernel, by decide +kernel, by decide +kernel, by decide +kernel⟩, by decide, by decide⟩
theorem n_4003_3 : ∃ N : Nat, Nat.beq (Nat.add 1 (sumT (leaf 4003 (pwp 2 4003 3) (orT (sqp 4003) 12 0)) 12 0)) N = true ∧ CountIs ((4003 : Nat) : Int) ((pwp 2 4003 3 : Nat) : Int) (N : Int) ∧ 2 ≤ N ∧ N ≤ 20000 :=
  ⟨3892, by decide +kernel, ⟨128, 107, 13, -34, 39, -73, -34, l1_4003, l2_4003, by decide +kernel, by decide +kernel, by decide +kernel, by decide +kernel, by decide +kernel, by decide +kernel⟩, by decide, by decide⟩
theorem n_4003_4 : ∃ N : Nat, Nat.beq (Nat.add 1 (sumT (leaf 4003 (pwp 2 4003 4) (orT (sqp 4003) 12 0)) 12 0)) N = true ∧ CountIs ((4003 : Nat) : Int) ((pwp 2 4003 4 : Nat) : Int) (N : Int) ∧ 2 ≤ N ∧ N ≤ 20000 :=
  ⟨3897, by decide +kernel, ⟨128, 107, 13, -34, 39, -34, 39, l1_4003, l2_4003, by decide +kernel, by decide +kernel, by decide +kernel, by decide +kernel, by decide +kernel, by decide +kernel⟩, by decide, by decide⟩
theorem n_4003_5 : ∃ N : Nat, Nat.beq (Nat.add 1 (sumT (leaf 4003 (pwp 2 4003 5) (orT (sqp 4003) 12 0)) 12 0)) N = true ∧ CountIs ((4003 : Nat) : Int) ((pwp 2 4003 5 : Nat) : Int) (N : Int) ∧ 2 ≤ N ∧ N ≤ 20000 :=
  ⟨4009, by decide +kernel, ⟨128, 107, 13, -34, 39, 39, 73, l1_4003, l2_4003, by decide +kernel, by decide +kernel, by decide +kernel, by decide +kernel, by decide +kernel, by decide +kernel⟩, by decide, by decide⟩
theorem g_4003 : Nat.beq (Nat.lor (orT (pwp 2 4003) 12 0) 1) (Nat.sub (Nat.pow 2 4003) 1) = true := by decide +kernel
theorem o_4003 : Nat.beq (pwp 2 4003 (4003 - 1)) 1 = true := by decide +kernel
def tab_4003 : Tab 4003 where
  g := 2
  k := 12
  seven := by decide
  twelve := by decide
  top := by decide
  hk := by decide
  all := g_4003
  ord := o_4003
  cnt := fun i h => match i, h with
    | 0, _ => n_4003_0
    | 1, _ => n_4003_1
    | 2, _ => n_4003_2
    | 3, _ => n_4003_3
    | 4, _ => n_4003_4
    | 5, _ => n_4003_5
    | i + 6, h => absurd h (by omega)
theorem l1_10039 : loop1 ((10039 : Nat) : Int) 20 1 = some 256 := by decide +kernel
theorem l2_10039 : loop2 ((10039 : Nat) : Int) 400 256 1 = some (148, 26) := by decide +kernel
theorem n_10039_0 : ∃ N : Nat, Nat.beq (Nat.add 1 (sumT (leaf 10039 (pwp 3 10039 0) (orT (sqp 10039) 14 0)) 14 0)) N = true ∧ CountIs ((10039 : Nat) : Int) ((pwp 3 10039 0 : Nat) : Int) (N : Int) ∧ 2 ≤ N ∧ N ≤ 20000 :=
  ⟨10188, by decide +kernel, ⟨256, 148, 26, 113, 78, 113, 78, l1_10039, l2_10039, by decide +kernel, by decide +kernel, by decide +kernel, by decide +kernel, by decide +kernel, by decide +kernel⟩, by decide, by decide⟩
theorem n_10039_1 : ∃ N : Nat, Nat.beq (Nat.add 1 (sumT (leaf 10039 (pwp 3 10039 1) (orT (sqp 10039) 14 0)) 14 0)) N = true ∧ CountIs ((10039 : Nat) : Int) ((pwp 3 10039 1 : Nat) : Int) (N : Int) ∧ 2 ≤ N ∧ N ≤ 20000 :=
  ⟨10231, by decide +kernel, ⟨256, 148, 26, 113, 78, 78, -35, l1_10039, l2_10039, by decide +kernel, by decide +kernel, by decide +kernel, by decide +kernel, by decide +kernel, by decide +kernel⟩, by decide, by decide⟩
theorem n_10039_2 : ∃ N : Nat, Nat.beq (Nat.add 1 (sumT (leaf 10039 (pwp 3 10039 2) (orT (sqp 10039) 14 0)) 14 0)) N = true ∧ CountIs ((10039 : Nat) : Int) ((pwp 3 10039 2 : Nat) : Int) (N : Int) ∧ 2 ≤ N ∧ N ≤ 20000 :=
  ⟨10083, by decide +kernel, ⟨256, 148, 26, 113, 78, -35, -113, l1_10039, l2_10039, by decide +kernel, by decide +kernel, by decide +kernel, by decide +kernel, by decide +kernel, by decide +kernel⟩, by decide, by decide⟩
theorem n_10039_3 : ∃ N : Nat, Nat.beq (Nat.add 1 (sumT (leaf 10039 (pwp 3 10039 3) (orT (sqp 10039) 14 0)) 14 0)) N = true ∧ CountIs ((10039 : Nat) : Int) ((pwp 3 10039 3 : Nat) : Int) (N : Int) ∧ 2 ≤ N ∧ N ≤ 20000 :=
  ⟨9892, by decide +kernel, ⟨256, 148, 26, 113, 78, -113, -78, l1_10039, l2_10039, by decide +kernel, by decide +kernel, by decide +kernel, by decide +kernel, by decide +kernel, by decide +kernel⟩, by decide, by decide⟩
theorem n_10039_4 : ∃ N : Nat, Nat.beq (Nat.add 1 (sumT (leaf 10039 (pwp 3 10039 4) (orT (sqp 10039) 14 0)) 14 0)) N = true ∧ CountIs ((10039 : Nat) : Int) ((pwp 3 10039 4 : Nat) : Int) (N : Int) ∧ 2 ≤ N ∧ N ≤ 20000 :=
  ⟨9849, by decide +kernel, ⟨256, 148, 26, 113, 78, -78, 35, l1_10039, l2_10039, by decide +kernel, by decide +kernel, by decide +kernel, by decide +kernel, by decide +kernel, by decide +kernel⟩, by decide, by decide⟩
theorem n_10039_5 : ∃ N : Nat, Nat.beq (Nat.add 1 (sumT (leaf 10039 (pwp 3 10039 5) (orT (sqp 10039) 14 0)) 14 0)) N = true ∧ CountIs ((10039 : Nat) : Int) ((pwp 3 10039 5 : Nat) : Int) (N : Int) ∧ 2 ≤ N ∧ N ≤ 20000 :=
  ⟨9997, by decide +kernel, ⟨256, 148, 26, 113, 78, 35, 113, l1_10039, l2_10039, by decide +kernel, by decide +kernel, by decide +kernel, by decide +kernel, by decide +kernel, by decide +kernel⟩, by decide, by decide⟩
theorem g_10039 : Nat.beq (Nat.lor (orT (pwp 3 10039) 14 0) 1) (Nat.sub (Nat.pow 2 10039) 1) = true := by decide +kernel
theorem o_10039 : Nat.beq (pwp 3 10039 (10039 - 1)) 1 = true := by decide +kernel
def tab_10039 : Tab 10039 where
  g := 3
  k := 14
  seven := by decide
  twelve := by decide
  top := by decide
  hk := by decide
  all := g_10039
  ord := o_10039
  cnt := fun i h => match i, h with
    | 0, _ => n_10039_0
    | 1, _ => n_10039_1
    | 2, _ => n_10039_2
    | 3, _ => n_10039_3
    | 4, _ => n_10039_4
    | 5, _ => n_10039_5
    | i + 6, h => absurd h (by omega)
theorem tabs {p : Int} (h : p ∈ primes) : ∃ n : Nat, p = n ∧ n ≠ 0 ∧ Nonempty (Tab n) := by
  simp only [List.mem_cons, List.not_mem_nil, or_false] at h
  rcases h with rfl | rfl | rfl | rfl | rfl | rfl | rfl | rfl | rfl | rfl | rfl | rfl | rfl | rfl | rfl | rfl | rfl | rfl
  · exact ⟨7, rfl, by decide, ⟨tab_7⟩⟩
  · exact ⟨19, rfl, by decide, ⟨tab_19⟩⟩
  · exact ⟨31, rfl, by decide, ⟨tab_31⟩⟩
  · exact ⟨43, rfl, by decide, ⟨tab_43⟩⟩
  · exact ⟨67, rfl, by decide, ⟨tab_67⟩⟩
  · exact ⟨79, rfl, by decide, ⟨tab_79⟩⟩
  · exact ⟨103, rfl, by decide, ⟨tab_103⟩⟩
  · exact ⟨127, rfl, by decide, ⟨tab_127⟩⟩
  · exact ⟨139, rfl, by decide, ⟨tab_139⟩⟩
  · exact ⟨151, rfl, by decide, ⟨tab_151⟩⟩
  · exact ⟨163, rfl, by decide, ⟨tab_163⟩⟩
  · exact ⟨199, rfl, by decide, ⟨tab_199⟩⟩
  · exact ⟨211, rfl, by decide, ⟨tab_211⟩⟩
  · exact ⟨223, rfl, by decide, ⟨tab_223⟩⟩
  · exact ⟨1039, rfl, by decide, ⟨tab_1039⟩⟩
  · exact ⟨2011, rfl, by decide, ⟨tab_2011⟩⟩
  · exact ⟨4003, rfl, by decide, ⟨tab_4003⟩⟩
  · exact ⟨10039, rfl, by decide, ⟨tab_10039⟩⟩
end Mine
end

section
set_option linter.all false
namespace Mine
open Lean.Grind
theorem math_count (p b : Int) (hp : p ∈ primes) (h1 : 1 ≤ b) (h2 : b < p) : ∃ N, CountIs p b N ∧ 2 ≤ N ∧ N ≤ 20000 := by
  obtain ⟨n, rfl, hn, ⟨T⟩⟩ := tabs hp
  haveI : NeZero n := ⟨hn⟩
  obtain ⟨N, c1, c2, c3, _⟩ := T.curve h1 h2
  exact ⟨N, c1, by omega, by omega⟩
theorem b_ne {n : Nat} [NeZero n] (T : Tab n) {b : Int} (h1 : 1 ≤ b) (h2 : b < n) : T.fd.c b ≠ 0 := by
  have e := T.fd.small (a := b.toNat) (by omega) (by omega)
  have q : ((b.toNat : Nat) : Int) = b := by omega
  rwa [q] at e
theorem math_search (p b x : Int) (hp : p ∈ primes) (h1 : 1 ≤ b) (h2 : b < p) (h3 : 0 ≤ x) (h4 : x < p) : ∃ x1, search p b 10039 x = some x1 := by
  have hlo := primes_lo hp
  have hhi := primes_hi hp
  obtain ⟨n, rfl, hn, ⟨T⟩⟩ := tabs hp
  haveI : NeZero n := ⟨hn⟩
  obtain ⟨N, _, _, _, c4⟩ := T.curve h1 h2
  obtain ⟨_, x0, y, hy⟩ := c4 (T.fd.cv (T.fd.c b) (b_ne T h1 h2)) rfl
  obtain ⟨a, ha, rfl⟩ := T.fd.surj x0
  have hy' : y * y = T.fd.c a * T.fd.c a * T.fd.c a + T.fd.c b := hy
  refine search_finds (by omega) (T.fd.good hy') 10039 (((a : Int) - x) % n).toNat x ?_ h3 h4 ?_
  · have := Int.emod_lt_of_pos ((a : Int) - x) (show (0 : Int) < n by omega); omega
  · rw [Int.toNat_of_nonneg (Int.emod_nonneg _ (by omega)), Int.add_emod_emod]
    have q : x + (a - x) = (a : Int) := by omega
    rw [q, Int.emod_eq_of_lt (by omega) (by omega)]
section
variable {F : Type} [CommRing F] [DecidableEq F]
theorem id_q1 (x y b : F) (h : y * y - x * x * x - b = 0) : y * y = x * x * x + b := by grind
theorem smul_less (C : Cv F) {P : Pt F} (hP : On C P) {m : Nat} (h : smul C (m + 1) P = .inf) : smul C m P = pneg P := by
  have hm := smul_on C hP m
  have e := cancel C hP hm
  rw [show padd C P (smul C m P) = .inf from h, padd_inf] at e
  exact e.symm
theorem smul_more (C : Cv F) {P : Pt F} (hP : On C P) {N : Nat} (t m : Nat) (h : smul C N P = .inf) : smul C (N * t + m) P = smul C m P := by
  rw [smul_add C hP, smul_mul C hP, h, smul_inf]; rfl
end
theorem math_asked (p b N x y z t more : Int) (hp : p ∈ primes) (h1 : 1 ≤ b) (h2 : b < p) (hN : CountIs p b N) (hc : (y * y - x ^ 3 - b) % p = 0) (z1 : 1 ≤ z) (z2 : z < p) (t1 : 1 ≤ t) (t2 : t ≤ 3) (m1 : -1 ≤ more) (m2 : more ≤ 2) :
    Asked p (x * z % p, y * z % p, z % p) (N * t + more) more := by
  obtain ⟨n, rfl, hn, ⟨T⟩⟩ := tabs hp
  haveI : NeZero n := ⟨hn⟩
  obtain ⟨N', c1, c2, c3, c4⟩ := T.curve h1 h2
  have eN := countIs_uniq hN c1
  subst eN
  let C := T.fd.cv (T.fd.c b) (b_ne T h1 h2)
  have kill := (c4 C rfl).1
  have hP : On C (.aff (T.fd.c x) (T.fd.c y)) := by
    show T.fd.c y * T.fd.c y = T.fd.c x * T.fd.c x * T.fd.c x + T.fd.c b
    apply id_q1
    rw [← pow_3, ← T.fd.pow, ← T.fd.mul, ← T.fd.sub, ← T.fd.sub, T.fd.eq0]; exact hc
  have hz : T.fd.c z ≠ 0 := by
    have e := T.fd.small (a := z.toNat) (by omega) (by omega)
    have q : ((z.toNat : Nat) : Int) = z := by omega
    rwa [q] at e
  have R : Rep T.fd (x * z % (n : Int), y * z % (n : Int), z % (n : Int)) (.aff (T.fd.c x) (T.fd.c y)) := by
    refine ⟨?_, ?_, ?_⟩
    · show T.fd.c (z % n) ≠ 0; rw [T.fd.mod]; exact hz
    · show T.fd.c (x * z % n) = _ * T.fd.c (z % n); rw [T.fd.mod, T.fd.mod, T.fd.mul]
    · show T.fd.c (y * z % n) = _ * T.fd.c (z % n); rw [T.fd.mod, T.fd.mod, T.fd.mul]
  generalize (x * z % (n : Int), y * z % (n : Int), z % (n : Int)) = pt at R
  generalize (.aff (T.fd.c x) (T.fd.c y) : Pt (Fin n)) = P at hP R
  have kP := kill P hP
  have hNt : (N' : Int) * t = ((N' * t.toNat : Nat) : Int) := by rw [Int.natCast_mul, Int.toNat_of_nonneg (by omega)]
  have hNt2 : 2 ≤ N' * t.toNat ∧ N' * t.toNat ≤ 60000 := by
    have : t.toNat = 1 ∨ t.toNat = 2 ∨ t.toNat = 3 := by omega
    rcases this with e | e | e <;> rw [e] <;> omega
  rw [hNt]
  have z0 := smul_more C hP t.toNat 0 kP
  rw [Nat.add_zero] at z0
  have hr : (0 : Int) ≤ ((N' * t.toNat : Nat) : Int) + more ∧ ((N' * t.toNat : Nat) : Int) + more < 2 ^ 21 := by omega
  have G := rep_mul T.fd C 21 _ hP R hr.1 hr.2
  unfold Asked
  refine ⟨fun e => ?_, fun e => ?_, fun e => ?_⟩
  · subst e
    have q : (((N' * t.toNat : Nat) : Int) + 0).toNat = N' * t.toNat := by omega
    rw [q, z0] at G; exact G
  · have e : more = -1 := by omega
    subst e
    have q : (((N' * t.toNat : Nat) : Int) + -1).toNat + 1 = N' * t.toNat := by omega
    rw [← q] at z0
    rw [smul_less C hP z0] at G
    exact rep_same T.fd G (rep_neg T.fd R)
  · have q : (((N' * t.toNat : Nat) : Int) + more).toNat = N' * t.toNat + more.toNat := by omega
    rw [q, smul_more C hP _ _ kP] at G
    exact rep_same T.fd G (rep_mul T.fd C 21 more hP R (by omega) (by omega))
theorem math : Math := ⟨math_count, math_search, math_asked⟩
end Mine
end

theorem PySem.Challenge.cw_bb0059_01_holds : PySem.Challenge.rw_bb0059_01.Holds :=
  Mine.main Mine.math
