import PyProof.Rows.All
import Wide.All
import OpenK.AllK
import Wide.FinOn
import PySem.Challenge.RW_vc0034_01
open PySem PySem.W PyProof.Rows
set_option Elab.async false
set_option maxRecDepth 100000
set_option maxHeartbeats 0
namespace Mine
open_top hd for PySem.Challenge.rw_vc0034_01
end Mine
open PySem.Calls
set_option maxHeartbeats 4000000
namespace Mine
section
/-- the program; the part of the heap that its top leaves -/
abbrev pr : Program := PySem.Challenge.pw_vc0034_01
noncomputable abbrev Kf (w : World) : Frag := Mine.hd.heap_39 w.params
@[irreducible] noncomputable def objOf (w : World) (a : Addr) : Obj := match (Kf w).lookup a with | some o => o | none => default
@[irreducible] noncomputable def fdOf (w : World) (a : Addr) : FuncData := match (objOf w a).data with | .func fd => fd | _ => default
@[irreducible] noncomputable def bodyOf (w : World) (a : Addr) : List Stmt := match (fdOf w a).body with | .stmts b => b | _ => []

/-- a tree that does not raise -/
abbrev W {α : Type} (w : World) (A : Around) (t : Sem α) (Q : α → Shared → Prop) (s : Shared) : Prop := wpAny (model pr w) A t Q (fun _ _ => False) s
theorem W.any {α : Type} {w : World} {A : Around} {t : Sem α} {Q : α → Shared → Prop} {E : Value → Shared → Prop} {s : Shared} (h : W w A t Q s) : wpAny (model pr w) A t Q E s :=
  wpAny_mono h (fun _ _ q => q) fun _ _ f => f.elim
theorem W.mono {α : Type} {w : World} {A : Around} {t : Sem α} {Q Q' : α → Shared → Prop} {s : Shared} (h : W w A t Q s) (hq : ∀ a s', Q a s' → Q' a s') : W w A t Q' s :=
  wpAny_mono h hq fun _ _ f => f

/-- room -/
structure Ok (k : Nat) (A : Around) : Prop where
  hd : A.handled = none
  dp : A.depth + k ≤ 900
  un : A.units + 20 * k ≤ 9000
theorem Ok.le {j k : Nat} {A : Around} (x : Ok k A) (h : j ≤ k := by omega) : Ok j A := ⟨x.hd, by have := x.dp; omega, by have := x.un; omega⟩
theorem Ok.in1 {k : Nat} {A : Around} (x : Ok (k + 1) A) : Ok k A.in1 := ⟨x.hd, by have := x.dp; show A.depth + k ≤ 900; omega, by have := x.un; show A.units + 1 + 20 * k ≤ 9000; omega⟩
theorem Ok.deeper {k : Nat} {A : Around} (x : Ok (k + 1) A) (env : Env) : Ok k (A.deeper env) := ⟨x.hd, by have := x.dp; show A.depth + 1 + k ≤ 900; omega, by have := x.un; show A.units + 3 + 20 * k ≤ 9000; omega⟩
theorem Ok.room {k : Nat} {A : Around} (x : Ok k A) : A.depth < recursionLimit := by have := x.dp; show A.depth < 1000; omega
theorem Ok.units {k : Nat} {A : Around} (x : Ok k A) : A.units < cLine := by have := x.un; show A.units < 9900; omega

theorem keeps_refl (s : Shared) : Keeps s s := ⟨s.heap, s.toks, rfl, fun _ _ e => e⟩
theorem keeps_tok (s : Shared) (t : Nat) : Keeps s { s with toks := t } := ⟨s.heap, t, rfl, fun _ _ e => e⟩
theorem keeps_push (s : Shared) (o : Obj) (t : Nat) : Keeps s { s with heap := s.heap.push o, toks := t } := ⟨_, t, rfl, fun _ _ e => Heap.get?_push_of_some _ e⟩
theorem kget {s s' : Shared} (x : Keeps s s') {a : Addr} {o : Obj} (e : s.heap.get? a = some o) : s'.heap.get? a = some o := by obtain ⟨h', t, rfl, k⟩ := x; exact k a o e
theorem keeps_trans {s s' s'' : Shared} (x : Keeps s s') (y : Keeps s' s'') : Keeps s s'' := by
  obtain ⟨h', t, rfl, k⟩ := x; obtain ⟨h'', t', rfl, k'⟩ := y; exact ⟨h'', t', rfl, fun b o e => k' b o (k b o e)⟩
theorem kfresh {s s' : Shared} (x : Keeps s s') {a : Addr} (h : s'.heap.get? a = none) : s.heap.get? a = none := by
  cases q : s.heap.get? a with
  | none => rfl
  | some o => rw [kget x q] at h; cases h
inductive Upl (x : Str) (v : Option Value) : List (Str × Option Value) → List (Str × Option Value) → Prop
  | head {o r} : Upl x v ((x, o) :: r) ((x, v) :: r)
  | tail {p r r'} : Upl x v r r' → Upl x v (p :: r) (p :: r')
theorem Upl.names {x : Str} {v : Option Value} {l l' : List (Str × Option Value)} (u : Upl x v l l') : l'.map (·.1) = l.map (·.1) := by
  induction u with
  | head => rfl
  | tail _ ih => rw [List.map_cons, List.map_cons, ih]
theorem Upl.mem {x : Str} {v : Option Value} {l l' : List (Str × Option Value)} (u : Upl x v l l') : (x, v) ∈ l' := by
  induction u with
  | head => exact List.Mem.head _
  | tail _ ih => exact List.Mem.tail _ ih
theorem Upl.other {x : Str} {v : Option Value} {l l' : List (Str × Option Value)} (u : Upl x v l l') : ∀ p ∈ l', p.1 ≠ x → p ∈ l := by
  induction u with
  | head => intro p hp h; cases hp with | head => exact absurd rfl h | tail _ hp => exact List.Mem.tail _ hp
  | tail _ ih => intro p hp h; cases hp with | head => exact List.Mem.head _ | tail _ hp => exact List.Mem.tail _ (ih p hp h)
theorem nodup_key {l : List (Str × Option Value)} (h : (l.map (·.1)).Nodup) {p q : Str × Option Value} (hp : p ∈ l) (hq : q ∈ l) (e : p.1 = q.1) : p = q := by
  induction l with
  | nil => cases hp
  | cons a r ih =>
    rw [List.map_cons, List.nodup_cons] at h
    cases hp with
    | head => cases hq with | head => rfl | tail _ hq => exact absurd (List.mem_map.mpr ⟨q, hq, e.symm⟩) h.1
    | tail _ hp => cases hq with | head => exact absurd (List.mem_map.mpr ⟨p, hp, e⟩) h.1 | tail _ hq => exact ih h.2 hp hq
def nodupB : List Str → Bool
  | [] => true
  | x :: r => r.all (fun y => decide (x ≠ y)) && nodupB r
theorem nodup_of {l : List Str} (h : nodupB l = true) : l.Nodup := by
  induction l with
  | nil => exact List.nodup_nil
  | cons x r ih =>
    simp only [nodupB, Bool.and_eq_true, List.all_eq_true, decide_eq_true_eq] at h
    exact List.nodup_cons.mpr ⟨fun q => h.1 x q rfl, ih h.2⟩
/-- a piece of the heap: the addresses that it stands at, and what is said of them -/
structure Res where
  fp : Addr → Prop
  ok : Heap → Prop
  al : ∀ h, ok h → ∀ b, fp b → ∃ o, h.get? b = some o
  st : ∀ h h', ok h → (∀ b o, fp b → h.get? b = some o → h'.get? b = some o) → ok h'
/-- a state: g is as it was, and the pieces stand apart -/
structure Hs (g : Heap) (z : Shared) (M : List Res) (s : Shared) : Prop where
  base : ∀ b o, g.get? b = some o → s.heap.get? b = some o
  gens : s.gens = z.gens
  drawn : s.drawn = z.drawn
  os : s.os = z.os
  ok : ∀ r ∈ M, r.ok s.heap
  off : ∀ r ∈ M, ∀ b, r.fp b → g.get? b = none
  dj : M.Pairwise fun x y => ∀ b, x.fp b → y.fp b → False
inductive Take (x : Res) : List Res → List Res → Prop
  | head {r} : Take x (x :: r) r
  | tail {y r r'} : Take x r r' → Take x (y :: r) (y :: r')
inductive Pick : List Res → List Res → List Res → Prop
  | nil {M} : Pick M [] M
  | cons {x xs M M' R} : Take x M M' → Pick M' xs R → Pick M (x :: xs) R
/-- what is kept of a list of pieces -/
inductive Sub : List Res → List Res → Prop
  | refl {r} : Sub r r
  | take {x xs M M'} : Take x M M' → Sub M' xs → Sub M (x :: xs)
  | drop {y r xs} : Sub r xs → Sub (y :: r) xs
theorem Take.perm {x : Res} {M M' : List Res} (t : Take x M M') : (x :: M').Perm M := by
  induction t with
  | head => exact List.Perm.refl _
  | tail _ ih => exact (List.Perm.swap _ _ _).trans (List.Perm.cons _ ih)
theorem Take.mem {x : Res} {M M' : List Res} (t : Take x M M') : x ∈ M := t.perm.subset List.mem_cons_self
theorem Pick.perm {M xs R : List Res} (p : Pick M xs R) : (xs ++ R).Perm M := by
  induction p with
  | nil => exact List.Perm.refl _
  | cons t _ ih => exact (List.Perm.cons _ ih).trans t.perm
section
variable {g : Heap} {z s s' : Shared} {M M' N R : List Res} {x r : Res}
theorem Hs.perm (H : Hs g z M s) (p : M'.Perm M) : Hs g z M' s :=
  ⟨H.base, H.gens, H.drawn, H.os, fun r hr => H.ok r (p.subset hr), fun r hr => H.off r (p.subset hr), (p.pairwise_iff (fun h b y x => h b x y)).mpr H.dj⟩
theorem Hs.take (H : Hs g z M s) (t : Take x M M') : Hs g z (x :: M') s := H.perm t.perm
theorem Hs.pick {xs : List Res} (H : Hs g z M s) (p : Pick M xs R) : Hs g z (xs ++ R) s := H.perm p.perm
theorem Hs.drop (H : Hs g z (x :: M) s) : Hs g z M s :=
  ⟨H.base, H.gens, H.drawn, H.os, fun r hr => H.ok r (List.mem_cons_of_mem _ hr), fun r hr => H.off r (List.mem_cons_of_mem _ hr), (List.pairwise_cons.mp H.dj).2⟩
theorem Hs.get (H : Hs g z M s) (t : Take x M M') : x.ok s.heap := H.ok x t.mem
theorem Hs.keeps (H : Hs g z M s) (k : Keeps s s') : Hs g z M s' := by
  obtain ⟨h', tk, rfl, k⟩ := k
  exact ⟨fun b o e => k b o (H.base b o e), H.gens, H.drawn, H.os, fun r hr => r.st _ _ (H.ok r hr) fun b o _ e => k b o e, H.off, H.dj⟩
theorem Hs.tok (H : Hs g z M s) (t : Nat) : Hs g z M { s with toks := t } := H.keeps (keeps_tok s t)
theorem Hs.sub {xs : List Res} (H : Hs g z M s) (p : Sub M xs) : Hs g z xs s := by
  induction p with
  | refl => exact H
  | @take x xs M M' t p0 ih =>
    have H' := H.take t
    have K := ih H'.drop
    refine ⟨K.base, K.gens, K.drawn, K.os, fun q hq => ?_, fun q hq => ?_, List.pairwise_cons.mpr ⟨fun y hy => ?_, K.dj⟩⟩
    · rcases List.mem_cons.mp hq with rfl | hq
      · exact H'.ok _ List.mem_cons_self
      · exact K.ok q hq
    · rcases List.mem_cons.mp hq with rfl | hq
      · exact H'.off _ List.mem_cons_self
      · exact K.off q hq
    · have hsub : ∀ {A B : List Res}, Sub A B → ∀ y ∈ B, y ∈ A := by
        intro A B p
        induction p with
        | refl => exact fun y h => h
        | take t _ ih => intro y h; rcases List.mem_cons.mp h with rfl | h; exact t.mem; exact t.perm.subset (List.mem_cons_of_mem _ (ih y h))
        | drop _ ih => exact fun y h => List.mem_cons_of_mem _ (ih y h)
      exact (List.pairwise_cons.mp H'.dj).1 y (hsub p0 y hy)
  | drop _ ih => exact ih H.drop
/-- a piece is written -/
theorem Hs.put {h' : Heap} {t : Nat} (H : Hs g z (x :: M) s) (hf : ∀ b, r.fp b → x.fp b) (hk : ∀ b o, ¬ x.fp b → s.heap.get? b = some o → h'.get? b = some o) (hr : r.ok h') :
    Hs g z (r :: M) { s with heap := h', toks := t } := by
  have hd := List.pairwise_cons.mp H.dj
  refine ⟨fun b o e => hk b o (fun f => ?_) (H.base b o e), H.gens, H.drawn, H.os, fun q hq => ?_, fun q hq => ?_, List.pairwise_cons.mpr ⟨fun y hy b f => hd.1 y hy b (hf b f), hd.2⟩⟩
  · rw [H.off x List.mem_cons_self b f] at e; cases e
  · rcases List.mem_cons.mp hq with rfl | hq
    · exact hr
    · exact q.st _ _ (H.ok q (List.mem_cons_of_mem _ hq)) fun b o f e => hk b o (fun f' => hd.1 q hq b f' f) e
  · rcases List.mem_cons.mp hq with rfl | hq
    · exact fun b f => H.off x List.mem_cons_self b (hf b f)
    · exact H.off q (List.mem_cons_of_mem _ hq)
/-- a piece is new -/
theorem Hs.new (H : Hs g z M s) (k : Keeps s s') (hn : ∀ b, r.fp b → s.heap.get? b = none) (hr : r.ok s'.heap) : Hs g z (r :: M) s' := by
  have H' := H.keeps k
  refine ⟨H'.base, H'.gens, H'.drawn, H'.os, fun q hq => ?_, fun q hq => ?_, List.pairwise_cons.mpr ⟨fun y hy b f f' => ?_, H.dj⟩⟩
  · rcases List.mem_cons.mp hq with rfl | hq
    · exact hr
    · exact H'.ok q hq
  · rcases List.mem_cons.mp hq with rfl | hq
    · intro b f
      cases e : g.get? b with
      | none => rfl
      | some o => have := H.base b o e; rw [hn b f] at this; cases this
    · exact H.off q hq
  · obtain ⟨o, e⟩ := y.al _ (H.ok y hy) b f'
    rw [hn b f] at e; cases e
theorem Hs.fresh (H : Hs g z M s) (t : Take x M M') {b : Addr} (f : x.fp b) {a : Addr} (n : s.heap.get? a = none) : b ≠ a := by
  rintro rfl
  obtain ⟨o, e⟩ := x.al _ (H.get t) b f
  rw [n] at e; cases e
theorem Hs.apart (H : Hs g z M s) {y : Res} (p : Pick M [x, y] R) {a b : Addr} (fa : x.fp a) (fb : y.fp b) : a ≠ b := by
  rintro rfl
  exact (List.pairwise_cons.mp (H.pick p).dj).1 y List.mem_cons_self a fa fb
end
/-- one object -/
def cR (a : Addr) (p : Obj → Prop) : Res where
  fp b := b = a
  ok h := ∃ o, h.get? a = some o ∧ p o
  al := fun h ⟨o, e, _⟩ b f => ⟨o, f ▸ e⟩
  st := fun h h' ⟨o, e, q⟩ k => ⟨o, k a o rfl e, q⟩
/-- several pieces as one -/
def sR (l : List Res) : Res where
  fp b := ∃ r ∈ l, r.fp b
  ok h := (∀ r ∈ l, r.ok h) ∧ l.Pairwise fun x y => ∀ b, x.fp b → y.fp b → False
  al := fun h ⟨k, _⟩ b ⟨r, hr, f⟩ => r.al h (k r hr) b f
  st := fun h h' ⟨q, d⟩ k => ⟨fun r hr => r.st h h' (q r hr) fun b o f e => k b o ⟨r, hr, f⟩ e, d⟩
section
variable {g : Heap} {z s s' : Shared} {M M' N R : List Res} {x r : Res}
theorem Hs.open_ {l : List Res} (H : Hs g z (sR l :: M) s) : Hs g z (l ++ M) s := by
  have hd := List.pairwise_cons.mp H.dj
  have ho := H.ok _ List.mem_cons_self
  refine ⟨H.base, H.gens, H.drawn, H.os, fun q hq => ?_, fun q hq => ?_, List.pairwise_append.mpr ⟨ho.2, hd.2, fun a ha b hb c f f' => hd.1 b hb c ⟨a, ha, f⟩ f'⟩⟩
  · rcases List.mem_append.mp hq with hq | hq
    · exact ho.1 q hq
    · exact H.ok q (List.mem_cons_of_mem _ hq)
  · rcases List.mem_append.mp hq with hq | hq
    · exact fun b f => H.off _ List.mem_cons_self b ⟨q, hq, f⟩
    · exact H.off q (List.mem_cons_of_mem _ hq)
theorem Hs.shut {l : List Res} (H : Hs g z (l ++ M) s) : Hs g z (sR l :: M) s := by
  have hd := List.pairwise_append.mp H.dj
  refine ⟨H.base, H.gens, H.drawn, H.os, fun q hq => ?_, fun q hq => ?_, List.pairwise_cons.mpr ⟨fun y hy b ⟨r, hr, f⟩ f' => hd.2.2 r hr y hy b f f', hd.2.1⟩⟩
  · rcases List.mem_cons.mp hq with rfl | hq
    · exact ⟨fun r hr => H.ok r (List.mem_append_left _ hr), hd.1⟩
    · exact H.ok q (List.mem_append_right _ hq)
  · rcases List.mem_cons.mp hq with rfl | hq
    · exact fun b ⟨r, hr, f⟩ => H.off r (List.mem_append_left _ hr) b f
    · exact H.off q (List.mem_append_right _ hq)
end
/-- the names of a frame, name by name (none: not bound yet); those of cs stand in cells -/
def frR (L : Addr) (cs : List (Str × Addr)) (l : List (Str × Option Value)) : Res where
  fp b := b = L ∨ ∃ x ∈ l, cs.lookup x.1 = some b
  ok h := (∃ m, h.Ns L m ∧ ∀ p ∈ l, cs.lookup p.1 = none → m p.1 = p.2) ∧ (∀ p ∈ l, ∀ c, cs.lookup p.1 = some c → h.IsCell c p.2 ∧ c ≠ L) ∧
    (∀ p ∈ l, ∀ q ∈ l, ∀ c, cs.lookup p.1 = some c → cs.lookup q.1 = some c → p = q) ∧ (l.map (·.1)).Nodup
  al := by
    rintro h ⟨⟨m, ⟨o, _, _, ho, _⟩, _⟩, hc, _⟩ b f
    rcases f with rfl | ⟨x, hx, e⟩
    · exact ⟨o, ho⟩
    · obtain ⟨⟨o, ho, _⟩, _⟩ := hc x hx b e
      exact ⟨o, ho⟩
  st := by
    rintro h h' ⟨⟨m, ⟨o, es, ep, ho, r⟩, hm⟩, hc, hi, hn⟩ k
    refine ⟨⟨m, ⟨o, es, ep, k _ _ (.inl rfl) ho, r⟩, hm⟩, fun p hp c e => ?_, hi, hn⟩
    obtain ⟨⟨o, ho, hd⟩, hne⟩ := hc p hp c e
    exact ⟨⟨o, k _ _ (.inr ⟨p, hp, e⟩) ho, hd⟩, hne⟩
theorem Upl.back {x : Str} {v : Option Value} {l l' : List (Str × Option Value)} (u : Upl x v l l') : ∃ o, (x, o) ∈ l ∧ ∀ p ∈ l, ∃ q ∈ l', q.1 = p.1 := by
  induction u with
  | @head o r => exact ⟨o, List.Mem.head _, fun p hp => by
      cases hp with
      | head => exact ⟨_, List.Mem.head _, rfl⟩
      | tail _ hp => exact ⟨p, List.Mem.tail _ hp, rfl⟩⟩
  | @tail p r r' _ ih =>
    obtain ⟨o, ho, hq⟩ := ih
    refine ⟨o, List.Mem.tail _ ho, fun q hq' => ?_⟩
    cases hq' with
    | head => exact ⟨_, List.Mem.head _, rfl⟩
    | tail _ hq' => obtain ⟨a, b, c⟩ := hq q hq'; exact ⟨a, List.Mem.tail _ b, c⟩
section
variable {g : Heap} {z s s' : Shared} {M M' N R : List Res} {L : Addr} {cs : List (Str × Addr)} {l l' : List (Str × Option Value)} {w : World} {A : Around} {env : Env}
theorem ldL {x : Str} {v : Value} {Q : Value → Shared → Prop} (H : Hs g z M s) (t : Take (frR L cs l) M M') (hx : (x, some v) ∈ l) (q : Q v s) (hL : env.locals = L := by rfl)
    (hk : env.scope.kind = .function := by kernel_rfl) (hl : env.kindOf x = some .local := by kernel_rfl) (hc : cs.lookup x = none := by kernel_rfl) :
    W w A (loadName env x) Q s := by
  subst hL
  obtain ⟨⟨m, hn, hm⟩, _⟩ := H.get t
  exact wpAny_loadName_local hk hl hn (hm _ hx hc) q
theorem ldC {x : Str} {v : Value} {Q : Value → Shared → Prop} (H : Hs g z M s) (t : Take (frR L cs l) M M') (hx : (x, some v) ∈ l) (q : Q v s)
    (hk : env.scope.kind = .function := by kernel_rfl) (hl : (env.kindOf x == some .cell || env.kindOf x == some .free) = true := by kernel_rfl)
    (hc : env.cells.lookup x = cs.lookup x := by kernel_rfl) (hi : (cs.lookup x).isSome = true := by kernel_rfl) (hcd : (x == ("__classdict__" : Str)) = false := by kernel_rfl) :
    W w A (loadName env x) Q s := by
  obtain ⟨_, hcl, _⟩ := H.get t
  obtain ⟨c, e⟩ := Option.isSome_iff_exists.mp hi
  have := (hcl _ hx c e).1
  rw [Bool.or_eq_true, beq_iff_eq, beq_iff_eq] at hl
  rcases hl with hl | hl
  · exact wpAny_loadName_cell hk hl (hc.trans e) this q
  · exact wpAny_loadName_free hk hl (hc.trans e) this q hcd
theorem nmL {x : Str} {pos : Pos} {v : Value} {Q : Value → Shared → Prop} (H : Hs g z M s) (t : Take (frR L cs l) M M') (hx : (x, some v) ∈ l) (q : Q v s) (hL : env.locals = L := by rfl)
    (hk : env.scope.kind = .function := by kernel_rfl) (hl : env.kindOf x = some .local := by kernel_rfl) (hc : cs.lookup x = none := by kernel_rfl) (hd : (x == ("__debug__" : Str)) = false := by kernel_rfl) :
    W w A (eval (.Name x pos) env) Q s := wpAny_Name (ldL H t hx q hL hk hl hc) hd
theorem nmC {x : Str} {pos : Pos} {v : Value} {Q : Value → Shared → Prop} (H : Hs g z M s) (t : Take (frR L cs l) M M') (hx : (x, some v) ∈ l) (q : Q v s)
    (hk : env.scope.kind = .function := by kernel_rfl) (hl : (env.kindOf x == some .cell || env.kindOf x == some .free) = true := by kernel_rfl)
    (hc : env.cells.lookup x = cs.lookup x := by kernel_rfl) (hi : (cs.lookup x).isSome = true := by kernel_rfl) (hcd : (x == ("__classdict__" : Str)) = false := by kernel_rfl) (hd : (x == ("__debug__" : Str)) = false := by kernel_rfl) :
    W w A (eval (.Name x pos) env) Q s := wpAny_Name (ldC H t hx q hk hl hc hi hcd) hd
theorem stL {x : Str} {v : Value} {Q : Unit → Shared → Prop} (H : Hs g z M s) (t : Take (frR L cs l) M M') (u : Upl x (some v) l l') (q : ∀ s', Hs g z (frR L cs l' :: M') s' → Q () s') (hL : env.locals = L := by rfl)
    (hk : env.scope.kind = .function := by kernel_rfl) (hl : env.kindOf x = some .local := by kernel_rfl) (hc : cs.lookup x = none := by kernel_rfl) :
    W w A (storeName env x v) Q s := by
  subst hL
  obtain ⟨⟨m, hn, hm⟩, hcl, hi, hd⟩ := H.get t
  refine wpAny_storeName_local hl hn (fun h' hn' hs => q _ ?_) (by rw [hk]; rfl)
  have hcell : ∀ p ∈ l', ∀ c, cs.lookup p.1 = some c → p ∈ l := fun p hp c e => u.other p hp fun q => by rw [q, hc] at e; cases e
  refine (H.take t).put ?_ (fun b o nf e => (hs.2 b fun q => nf (.inl q)).trans e) ⟨⟨_, hn', fun p hp e => ?_⟩, fun p hp c e => ?_, fun p hp q hq c e e' => ?_, by rw [u.names]; exact hd⟩
  · rintro b (rfl | ⟨p, hp, e⟩)
    · exact .inl rfl
    · exact .inr ⟨p, hcell p hp b e, e⟩
  · by_cases hx : p.1 = x
    · have : p = (x, some v) := nodup_key (by rw [u.names]; exact hd) hp u.mem hx
      subst this; exact if_pos rfl
    · show (if p.1 = x then _ else _) = _
      rw [if_neg hx]; exact hm p (u.other p hp hx) e
  · obtain ⟨h1, h2⟩ := hcl p (hcell p hp c e) c e
    exact ⟨h1.sameBut hs h2, h2⟩
  · exact hi p (hcell p hp c e) q (hcell q hq c e') c e e'
theorem stC {x : Str} {v : Value} {Q : Unit → Shared → Prop} (H : Hs g z M s) (t : Take (frR L cs l) M M') (u : Upl x (some v) l l') (q : ∀ s', Hs g z (frR L cs l' :: M') s' → Q () s') (hL : env.locals = L := by rfl)
    (hk : env.scope.kind = .function := by kernel_rfl) (hl : env.kindOf x = some .cell := by kernel_rfl) (hcs : env.cells.lookup x = cs.lookup x := by kernel_rfl) (his : (cs.lookup x).isSome = true := by kernel_rfl) :
    W w A (storeName env x v) Q s := by
  subst hL
  obtain ⟨⟨m, hn, hm⟩, hcl, hi, hd⟩ := H.get t
  obtain ⟨c, hc⟩ := Option.isSome_iff_exists.mp his
  obtain ⟨o, ho, hb⟩ := u.back
  obtain ⟨hcc, hcL⟩ := hcl _ ho c hc
  refine wpAny_storeName_cell hk hl (hcs.trans hc) hcc (fun h' hn' hs => q _ ?_)
  have hx' : ∀ p ∈ l', p.1 = x → p = (x, some v) := fun p hp e => nodup_key (by rw [u.names]; exact hd) hp u.mem e
  refine (H.take t).put ?_ (fun b o' nf e => (hs.2 b fun q => nf (.inr ⟨_, ho, q ▸ hc⟩)).trans e) ⟨⟨m, hn.sameBut hs (Ne.symm hcL), fun p hp e => ?_⟩, fun p hp c' e => ?_, fun p hp q hq c' e e' => ?_, by rw [u.names]; exact hd⟩
  · rintro b (rfl | ⟨p, hp, e⟩)
    · exact .inl rfl
    · by_cases hx : p.1 = x
      · exact .inr ⟨_, ho, by rw [← hx]; exact e⟩
      · exact .inr ⟨p, u.other p hp hx, e⟩
  · by_cases hx : p.1 = x
    · rw [hx, hc] at e; cases e
    · exact hm p (u.other p hp hx) e
  · by_cases hx : p.1 = x
    · rw [hx, hc] at e; cases e
      rw [hx' p hp hx]; exact ⟨hn', hcL⟩
    · obtain ⟨h1, h2⟩ := hcl p (u.other p hp hx) c' e
      refine ⟨h1.sameBut hs fun q => hx ?_, h2⟩
      subst q
      exact congrArg (·.1) (hi p (u.other p hp hx) _ ho c' e hc)
  · by_cases hx : p.1 = x <;> by_cases hy : q.1 = x
    · rw [hx' p hp hx, hx' q hq hy]
    · rw [hx, hc] at e; cases e
      exact absurd (congrArg (·.1) (hi q (u.other q hq hy) _ ho _ e' hc)) hy
    · rw [hy, hc] at e'; cases e'
      exact absurd (congrArg (·.1) (hi p (u.other p hp hx) _ ho _ e hc)) hx
    · exact hi p (u.other p hp hx) q (u.other q hq hy) c' e e'
end
end
local macro_rules | `(tactic| walk_at "m_mem") => `(tactic| with_reducible (first | exact List.mem_cons_self | (refine List.mem_cons_of_mem _ ?_; walk_at "m_mem")))
local macro_rules | `(tactic| walk_at "m_upl") => `(tactic| with_reducible (first | exact Upl.head | (apply Upl.tail; walk_at "m_upl")))
local macro_rules | `(tactic| walk_at "m_take") => `(tactic| with_reducible (first | exact Take.head | (apply Take.tail; walk_at "m_take")))
local macro_rules | `(tactic| walk_at "m_pick") => `(tactic| with_reducible (first | exact Pick.nil | (apply Pick.cons; (walk_at "m_take"); walk_at "m_pick")))
local macro_rules | `(tactic| walk_at "m_sub") => `(tactic| with_reducible (first | exact Sub.refl | (apply Sub.take; (walk_at "m_take"); walk_at "m_sub") | ((fail_if_success (apply Sub.take)); apply Sub.drop; walk_at "m_sub")))
section
/-- what the top has left, as far as a call reads it -/
structure Base (w : World) (g : Heap) : Prop where
  X : (Kf w).In g
  lim : g.NoLimit
  gl : ∃ mg, g.Ns mainGlobals mg
  bt : ∃ mb, g.Ns builtinsNs mb ∧ ∀ x : Str, x ≠ "__name__" → mb x = bootBuiltins x
section
variable {w : World} {A : Around} {g : Heap} {z s : Shared} {M M' R : List Res}
theorem Base.x (B : Base w g) (H : Hs g z M s) : (Kf w).In s.heap := B.X.keeps H.base

/-- a def of the text: checked by evaluation -/
noncomputable def fnOk (w : World) (a : Addr) : Bool := match (Kf w).lookup a with
  | some ⟨_, _, .func fd, _⟩ => (match fd.body with | .stmts _ => true | _ => false) && fd.closure.isEmpty && !fd.scope.isCoroutine && !fd.scope.isGenerator && fd.scope.kind == .function && codeIn (Kf w) fd.code fd.qualname
  | _ => false
theorem wpAny_and {M : Model} {α : Type} {A : Around} {t : Sem α} {Q : α → Shared → Prop} {s : Shared} {p : Prop} (x : p) (h : wpAny M A t Q (fun _ _ => False) s) : wpAny M A t (fun a s' => p ∧ Q a s') (fun _ _ => False) s :=
  wpAny_mono h (fun _ _ q => ⟨x, q⟩) fun _ _ f => f
theorem lookup_app {x : Str} {a b : List (Str × Value)} : (a ++ b).lookup x = (a.lookup x).or (b.lookup x) := by
  induction a with
  | nil => rfl
  | cons p r ih =>
    obtain ⟨n, v⟩ := p
    rw [List.cons_append, List.lookup_cons, List.lookup_cons]
    cases x == n <;> simp [ih]
theorem bindL_not {kd : Str → Option NameKind} {x : Str} : ∀ {binds : List (Str × Value)} {m : Str → Option Value}, kd x = some .local → bindL kd binds m x = (binds.reverse.lookup x).or (m x)
  | [], m, _ => rfl
  | (n, v) :: r, m, h => by
    rw [bindL, bindL_not h, List.reverse_cons, lookup_app]
    cases r.reverse.lookup x with
    | some y => rfl
    | none =>
      by_cases e : x = n
      · subst e; rw [if_pos h]; simp
      · have : List.lookup x [(n, v)] = none := by simp [List.lookup_cons, beq_eq_false_iff_ne.mpr e]
        rw [this]
        split <;> simp [e]
theorem bindC_not {kd : Str → Option NameKind} {x : Str} : ∀ {binds : List (Str × Value)} {m : Str → Option Value}, kd x ≠ some .local → bindC kd binds m x = (binds.reverse.lookup x).or (m x)
  | [], m, _ => rfl
  | (n, v) :: r, m, h => by
    rw [bindC, bindC_not h, List.reverse_cons, lookup_app]
    cases r.reverse.lookup x with
    | some y => rfl
    | none =>
      by_cases e : x = n
      · subst e; rw [if_neg h]; simp
      · have : List.lookup x [(n, v)] = none := by simp [List.lookup_cons, beq_eq_false_iff_ne.mpr e]
        rw [this]
        split <;> simp [e]
/-- the cells of a call whose frame stands at L -/
noncomputable abbrev cellsOf (w : World) (fa L : Addr) : List (Str × Addr) := cellsFrom (L + 1) (fdOf w fa).scope.names []
noncomputable def bindsOk (w : World) (fa : Addr) (binds : List (Str × Value)) (l : List (Str × Option Value)) : Bool :=
  nodupB (l.map (·.1)) && l.all (fun p => (fdOf w fa).scope.names.lookup p.1 == some .local || (fdOf w fa).scope.names.lookup p.1 == some .cell) &&
  binds.all (fun p => (fdOf w fa).scope.names.lookup p.1 == some .local || (fdOf w fa).scope.names.lookup p.1 == some .cell)
theorem cellsFrom_some : ∀ {names : List (Str × NameKind)} {n : Nat} {acc : List (Str × Addr)} {x : Str}, ((x, NameKind.cell) ∈ names ∨ (acc.lookup x).isSome = true) → ((cellsFrom n names acc).lookup x).isSome = true
  | [], n, acc, x, h => by rcases h with h | h; cases h; exact h
  | (y, k) :: r, n, acc, x, h => by
    unfold cellsFrom
    split
    · refine cellsFrom_some ?_
      rcases h with h | h
      · rcases List.mem_cons.mp h with e | h
        · cases e; right; simp [List.lookup_cons]
        · exact .inl h
      · right; rw [List.lookup_cons]; split <;> simp_all
    · rename_i hk
      refine cellsFrom_some ?_
      rcases h with h | h
      · rcases List.mem_cons.mp h with e | h
        · cases e; exact absurd rfl hk
        · exact .inl h
      · exact .inr h
theorem cellsFrom_kind : ∀ {names : List (Str × NameKind)} {n : Nat} {acc : List (Str × Addr)} {x : Str} {c : Addr}, (cellsFrom n names acc).lookup x = some c → (x, NameKind.cell) ∈ names ∨ (acc.lookup x) = some c
  | [], n, acc, x, c, h => .inr h
  | (y, k) :: r, n, acc, x, c, h => by
    unfold cellsFrom at h
    split at h
    · rename_i hk
      rw [beq_iff_eq] at hk; subst hk
      rcases cellsFrom_kind h with h | h
      · exact .inl (List.mem_cons_of_mem _ h)
      · rw [List.lookup_cons] at h
        split at h
        · rename_i hb; rw [beq_iff_eq] at hb; subst hb; exact .inl List.mem_cons_self
        · exact .inr h
    · rcases cellsFrom_kind h with h | h
      · exact .inl (List.mem_cons_of_mem _ h)
      · exact .inr h
theorem mem_of_lookup' {α : Type} : ∀ {l : List (Str × α)} {n : Str} {c : α}, l.lookup n = some c → (n, c) ∈ l := mem_of_lookup

theorem code_fn {k : Nat} {fa : Addr} {args : List Value} {binds : List (Str × Value)} {l : List (Str × Option Value)} {Q : Value → Shared → Prop}
    (hA : Ok (k + 1) A) (B : Base w g) (H : Hs g z M s) (hb : BindsTo s (fdOf w fa) ⟨args, []⟩ binds)
    (body : ∀ L s', Hs g z (frR L (cellsOf w fa L) l :: M) s' → Ok k (A.deeper (callEnvC (fdOf w fa) L fa)) → W w (A.deeper (callEnvC (fdOf w fa) L fa)) (execs (bodyOf w fa) (callEnvC (fdOf w fa) L fa)) (fun f s'' => Q (match f with | .ret v => v | _ => .none) s'') s')
    (hf : fnOk w fa = true := by kernel_rfl) (hl : l.map (fun p => binds.reverse.lookup p.1) = l.map (·.2) := by kernel_rfl) (hn : bindsOk w fa binds l = true := by kernel_rfl)
    (hk2 : ((fdOf w fa).scope.names.all fun x => x.2 != .cell || (fdOf w fa).scope.names.lookup x.1 == some .cell) = true := by kernel_rfl) :
    codeAny (model pr w) A (.call (.ref fa) ⟨args, []⟩) (wants Q fun _ _ => False) s := by
  unfold fnOk at hf
  split at hf
  · rename_i oc od fd sl ho
    have e : fdOf w fa = fd := by unfold fdOf objOf; rw [ho]
    simp only [Bool.and_eq_true, Bool.not_eq_true', beq_iff_eq, List.isEmpty_iff] at hf
    obtain ⟨⟨⟨⟨⟨h1, hcl⟩, h2⟩, h3⟩, h4⟩, h6⟩ := hf
    have hbody : fd.body = .stmts (bodyOf w fa) := by
      unfold bodyOf; rw [e]
      cases hb : fd.body with
      | stmts b => rfl
      | expr b => rw [hb] at h1; cases h1
    unfold bindsOk at hn
    simp only [Bool.and_eq_true, List.all_eq_true, Bool.or_eq_true, beq_iff_eq] at hn
    obtain ⟨⟨hnd, hkl⟩, hkb⟩ := hn
    rw [e] at hb hkl hkb body hk2
    have cellk : ∀ x c n, (cellsFrom n fd.scope.names []).lookup x = some c → fd.scope.names.lookup x = some .cell := fun x c n hx => by
      rcases cellsFrom_kind hx with h | h
      · have := List.all_eq_true.mp hk2 _ h
        simpa using this
      · cases h
    have X := B.x H
    have lim : s.heap.NoLimit := B.lim.keeps H.base
    refine codeAny_call_function hA.room (X _ _ ho) rfl h2 h3 hbody (codeRec_of X h6) (hb _ _ _ _ ?_)
    rw [hcl]
    refine wpAny_newFunctionEnv_cells h4 (fun x hx => ?_) fun env he s' x => ?_
    · rcases hkb x hx with h | h
      · exact .inl h
      · exact .inr ⟨h, cellsFrom_some (.inl (mem_of_lookup h))⟩
    obtain ⟨h', tk, hs', hk'⟩ := x.done
    refine ⟨by subst hs'; exact lim.keeps hk', codeAny_func ?_⟩
    subst he
    have K : Keeps s s' := ⟨h', tk, hs', hk'⟩
    have hfresh : ∀ b, s.heap.objs.size ≤ b → s.heap.get? b = none := fun b hb => by
      cases q : s.heap.get? b with
      | none => rfl
      | some o => exact absurd (Heap.lt_size q) (Nat.not_lt.mpr hb)
    refine (body s.heap.objs.size s' (H.new K ?_ ?_) (hA.deeper _)).any
    · rintro b (rfl | ⟨p, hp, hc⟩)
      · exact hfresh _ (Nat.le_refl _)
      · exact hfresh _ (Nat.le_of_lt (x.above _ _ (mem_of_lookup (show (cellsFrom (s.heap.objs.size + 1) fd.scope.names []).lookup p.1 = some b by rw [← e]; exact hc))))
    · rw [show cellsOf w fa s.heap.objs.size = cellsFrom (s.heap.objs.size + 1) fd.scope.names [] by rw [cellsOf, e]]
      have look : ∀ p ∈ l, binds.reverse.lookup p.1 = p.2 := fun p hp => by
        obtain ⟨i, hi, rfl⟩ := List.mem_iff_getElem.mp hp
        have := congrArg (fun q => q[i]?) hl
        simpa [hi] using this
      refine ⟨⟨_, x.toInCall.ns, fun p hp hc => ?_⟩, fun p hp c hc => ⟨?_, ?_⟩, fun p hp q hq c hc hc' => ?_, nodup_of hnd⟩
      · have hloc : fd.scope.names.lookup p.1 = some .local := by
          rcases hkl p hp with h | h
          · exact h
          · have := cellsFrom_some (n := s.heap.objs.size + 1) (acc := []) (.inl (mem_of_lookup h))
            rw [hc] at this; cases this
        rw [bindL_not hloc, look p hp]; cases p.2 <;> rfl
      · have hcell := cellk _ _ _ hc
        have := x.cell p.1 c hc
        rwa [bindC_not (by show fd.scope.names.lookup p.1 ≠ _; rw [hcell]; decide), look p hp, show (p.2).or ((fun _ => none : Str → Option Value) p.1) = p.2 by cases p.2 <;> rfl] at this
      · exact Nat.ne_of_gt (x.above _ _ (mem_of_lookup hc))
      · exact nodup_key (nodup_of hnd) hp hq (name_of_addr x.apart (mem_of_lookup hc) (mem_of_lookup hc'))
  · cases hf

theorem call_fn {k : Nat} {fa : Addr} {args : List Value} {binds : List (Str × Value)} {l : List (Str × Option Value)} {Q : Value → Shared → Prop}
    (hA : Ok (k + 1) A) (B : Base w g) (H : Hs g z M s) (hb : BindsTo s (fdOf w fa) ⟨args, []⟩ binds)
    (body : ∀ L s', Hs g z (frR L (cellsOf w fa L) l :: M) s' → Ok k (A.deeper (callEnvC (fdOf w fa) L fa)) → W w (A.deeper (callEnvC (fdOf w fa) L fa)) (execs (bodyOf w fa) (callEnvC (fdOf w fa) L fa)) (fun f s'' => Q (match f with | .ret v => v | _ => .none) s'') s')
    (hf : fnOk w fa = true := by kernel_rfl) (hl : l.map (fun p => binds.reverse.lookup p.1) = l.map (·.2) := by kernel_rfl) (hn : bindsOk w fa binds l = true := by kernel_rfl)
    (hk2 : ((fdOf w fa).scope.names.all fun x => x.2 != .cell || (fdOf w fa).scope.names.lookup x.1 == some .cell) = true := by kernel_rfl) :
    W w A (call (.ref fa) args) Q s := wpAny_call (code_fn hA B H hb body hf hl hn hk2)
/-- an attribute that stands in an own object's dict -/
noncomputable def attrOk (w : World) (C : Addr) (name : Str) : Bool := plainGet (Kf w) C name && hasDictIn (Kf w) C && (match findIn (Kf w) (.ref C) name with | some a => noGet (Kf w) a | none => false)
theorem ga {x C dx : Addr} {ox : Obj} {es : List DictEntry} {n : Nat} {name : Str} {v : Value} {b : Bool} {Q : Value → Shared → Prop} (X : (Kf w).In s.heap)
    (hx : s.heap.get? x = some ox) (hc : ox.cls = .ref C) (hnc : notCls ox = true) (hd : ox.dict = some dx) (he : s.heap.get? dx = some (dictOf es n)) (hg : getL name es = some (some v)) (hh : handedIn v = true)
    (q : Q v { s with toks := s.toks + 1 }) (ok : attrOk w C name = true := by kernel_rfl) : W w A (getAttr (.ref x) name b) Q s := by
  unfold attrOk at ok
  simp only [Bool.and_eq_true] at ok
  obtain ⟨⟨h1, h2⟩, h3⟩ := ok
  split at h3
  · rename_i a ha
    exact get_value (od := some (dictOf es n)) X ⟨hx, hc, hnc, by rw [hd]; exact he⟩ (plainGet_of h1).1 (findObj_own h2 ha h3 (by rw [lookIn_dict]; exact hg)) hh q
  · cases h3
/-- the function that a method's name stands for, of an own object -/
noncomputable def methOk (w : World) (C : Addr) (name : Str) (f : Addr) : Bool := plainGet (Kf w) C name && findIn (Kf w) (.ref C) name == some (some (.ref f)) && typeIn (Kf w) (.ref f) == some (.type "function")
theorem gm {x C dx f : Addr} {ox : Obj} {es : List DictEntry} {n : Nat} {name : Str} {pl : Sem Bool} {Q : Value × List Value → Shared → Prop} (X : (Kf w).In s.heap)
    (hx : s.heap.get? x = some ox) (hc : ox.cls = .ref C) (hnc : notCls ox = true) (hd : ox.dict = some dx) (he : s.heap.get? dx = some (dictOf es n)) (hg : getL name es = some none)
    (q : Q (.ref f, [.ref x]) s) (ok : methOk w C name f = true := by kernel_rfl) : W w A (getMethod (.ref x) name pl) Q s := by
  unfold methOk at ok
  simp only [Bool.and_eq_true, beq_iff_eq] at ok
  obtain ⟨⟨h1, h2⟩, h3⟩ := ok
  exact method_fn (od := some (dictOf es n)) X ⟨hx, hc, hnc, by rw [hd]; exact he⟩ (plainGet_of h1).1 (plainGet_of h1).2 h2 h3 (by show (lookIn name (dictOf es n)).map _ = _; rw [lookIn_dict, hg]; rfl) q

/-- the same of an own class below list, whose __getattribute__ is list's -/
noncomputable def plainL (w : World) (C : Addr) : Bool := findIn (Kf w) (.ref C) "__getattribute__" == some (some (.builtin "list.__getattribute__")) && findIn (Kf w) (.ref C) "__getattr__" == some none && mroIn (Kf w) C (.type "list") == some true
noncomputable def attrOkL (w : World) (C : Addr) (name : Str) : Bool := plainL w C && hasDictIn (Kf w) C && (match findIn (Kf w) (.ref C) name with | some a => noGet (Kf w) a | none => false)
theorem gaL {x C dx : Addr} {ox : Obj} {es : List DictEntry} {n : Nat} {name : Str} {v : Value} {b : Bool} {Q : Value → Shared → Prop} (X : (Kf w).In s.heap)
    (hx : s.heap.get? x = some ox) (hc : ox.cls = .ref C) (hnc : notCls ox = true) (hd : ox.dict = some dx) (he : s.heap.get? dx = some (dictOf es n)) (hg : getL name es = some (some v)) (hh : handedIn v = true)
    (q : Q v { s with toks := s.toks + 1 }) (ok : attrOkL w C name = true := by kernel_rfl) : W w A (getAttr (.ref x) name b) Q s := by
  unfold attrOkL plainL at ok
  simp only [Bool.and_eq_true, beq_iff_eq] at ok
  obtain ⟨⟨⟨⟨h0, h00⟩, h1⟩, h2⟩, h3⟩ := ok
  split at h3
  · rename_i a ha
    have I : InstAt s.heap x ox C (some (dictOf es n)) := ⟨hx, hc, hnc, by rw [hd]; exact he⟩
    have hf : findObj (Kf w) C (some (dictOf es n)) name = some (.value v) := findObj_own h2 ha h3 (by rw [lookIn_dict]; exact hg)
    obtain ⟨hh', gg, d, t, os⟩ := s
    have L0 := I.type (M := model pr w)
    have L1 := looks_findIn (M := model pr w) X h0
    have L2 := looks_findIn (M := model pr w) X h00
    have L3 := looks_find (M := model pr w) X I hf
    unfold getAttr getAttrBy
    refine wpAny_bind (wpAny_mkText (wpAny_holding (wpAny_bind (L0.at (wpAny_bind (L1.at ?_))))))
    dsimp only
    rw [show (onTheHeap (Value.ref C) && Value.builtin "list.__getattribute__" == Value.builtin "object.__getattribute__") = false from by rw [show (Value.builtin "list.__getattribute__" == Value.builtin "object.__getattribute__") = false from by decide +kernel, Bool.and_false], if_neg (by decide)]
    unfold getAttrByItsOwn hookBefore
    refine wpAny_bind ?_
    rw [if_pos (show onTheHeap (Value.ref C) = true from rfl)]
    refine L2.at ?_
    refine wpAny_bind (wpAny_attempt (wpAny_holding ?_))
    unfold callGetattribute
    rw [show (b && onTheHeap (Value.builtin "list.__getattribute__")) = false from Bool.and_false _, if_neg (by decide)]
    unfold boundAndCalled
    rw [PySem.F.slot_list_getattribute.bind]
    refine wpAny_bind (wpAny_pure ?_)
    show wpAny _ _ (call (.builtin "list.__getattribute__") [.ref x, .str name t]) _ _ _
    refine wpAny_call ?_
    refine codeAny_call_builtin PySem.F.slot_list_getattribute.plain am_entry_list_getattribute ?_
    refine @check_slot (model pr w) _ _ _ "list.__getattribute__" "list" "__getattribute__" (.ref x) [.str name t] [] _ (by decide +kernel) (by decide +kernel) (L0.andThen (looks_mroIn X h1)) (PySem.F.args_list_getattribute_2 _ _) ?_
    unfold Builtin.«object.__getattribute__»
    refine wpAny_bind (wpAny_pure (wpAny_bind (wpAny_pure (wpAny_bind (L0.at (wpAny_bind (L3.at ?_)))))))
    refine wpAny_pure ?_
    show wpAny _ _ (handedOut v) _ _ _
    rw [handedOut_of hh]; exact wpAny_pure q
  · cases h3
noncomputable def methOkL (w : World) (C : Addr) (name : Str) (f : Value) : Bool := plainL w C && findIn (Kf w) (.ref C) name == some (some f) && (typeIn (Kf w) f == some (.type "function") || typeIn (Kf w) f == some (.type "method_descriptor"))
theorem gmL {x C dx : Addr} {f : Value} {ox : Obj} {es : List DictEntry} {n : Nat} {name : Str} {pl : Sem Bool} {Q : Value × List Value → Shared → Prop} (X : (Kf w).In s.heap)
    (hx : s.heap.get? x = some ox) (hc : ox.cls = .ref C) (hnc : notCls ox = true) (hd : ox.dict = some dx) (he : s.heap.get? dx = some (dictOf es n)) (hg : getL name es = some none)
    (q : Q (f, [.ref x]) s) (ok : methOkL w C name f = true := by kernel_rfl) : W w A (getMethod (.ref x) name pl) Q s := by
  unfold methOkL plainL at ok
  simp only [Bool.and_eq_true, beq_iff_eq, Bool.or_eq_true] at ok
  obtain ⟨⟨⟨⟨h0, h00⟩, h1⟩, h2⟩, h3⟩ := ok
  have I : InstAt s.heap x ox C (some (dictOf es n)) := ⟨hx, hc, hnc, by rw [hd]; exact he⟩
  obtain ⟨hh', gg, d, t, os⟩ := s
  have L0 := I.type (M := model pr w)
  have L1 := looks_findIn (M := model pr w) X h0
  have L2 := looks_findIn (M := model pr w) X h00
  have L3 := looks_findIn (M := model pr w) X h2
  unfold getMethod specialOf
  refine wpAny_bind (wpAny_bind (L0.at (L1.at ?_)))
  dsimp only
  rw [if_neg (by rw [canon_list_getattribute]; decide)]
  refine wpAny_bind (wpAny_bind (L0.at (L2.at ?_)))
  refine wpAny_bind (wpAny_bind (L0.at (L3.at ?_)))
  have fin : ∀ tf, typeIn (Kf w) f = some tf → (tf != .type "function" && tf != .type "method_descriptor" && tf != .type "wrapper_descriptor") = false → W w A (do
      let tf ← typeOf f
      if tf != .type "function" && tf != .type "method_descriptor" && tf != .type "wrapper_descriptor" then return ← (do return (← getAttr (.ref x) name, []))
      if let .ref a := Value.ref x then
        if let some d := (← loadPart a (some headPart)).dict then
          if (← nsGet d name).isSome then return ← (do return (← getAttr (.ref x) name, []))
      rule "call.method-form"
      return (f, [Value.ref x])) Q ⟨hh', gg, d, t, os⟩ := by
    intro tf ht hne
    refine wpAny_bind ((looks_typeIn X ht).at ?_)
    rw [if_neg (by rw [hne]; decide)]
    refine wpAny_bind (wpAny_loadPart I.at_ ?_)
    rw [hd]
    refine wpAny_bind (wpAny_bind (wpAny_loadPart he ?_))
    rw [nsLook_of (show lookIn name (dictOf es n) = some none by rw [lookIn_dict]; exact hg)]
    refine wpAny_pure ?_
    exact wpAny_bind (wpAny_rule (wpAny_pure q))
  rcases h3 with h3 | h3
  · exact fin _ h3 (by decide +kernel)
  · exact fin _ h3 (by decide +kernel)

theorem callM {o : Expr} {name : Str} {apos pos : Pos} {args : List Expr} {env : Env} {Q : Value → Shared → Prop}
    (h : W w A (eval o env) (fun ov s₁ => W w A (getMethod ov name (do return (← importBound o env).getD true)) (fun f s₂ => W w A (callWith pos f.1 f.2 (backTo pos (starEach args env)) []) Q s₂) s₁) s)
    (hbase : attributeBase o name env (eval o env) = eval o env := by rfl)
    (hfew : methodCallForm (args.length + 0) (backTo pos (starEach args env)) [] = true := by rfl)
    (hline : (apos.endLine == pos.line) = true := by rfl) :
    W w A (eval (.Call (.Attribute o name apos) args [] pos) env) Q s := by
  rw [arm_eval_Call, hbase]
  refine wpAny_bind (wpAny_mono h (fun ov s₁ h₁ => wpAny_bind (wpAny_standAt ?_)) fun _ _ e => e)
  have hpos : methodCallPos true o env apos pos = pure pos := by unfold methodCallPos; simp [hline]
  unfold methodCall
  have hf' : methodCallForm (args.length + ([] : List Keyword).length) (backTo pos (starEach args env)) (backToKw pos (keywordEach [] env)) = true := hfew
  rw [hf']
  refine wpAny_bind (wpAny_holding (wpAny_mono h₁ (fun f s₂ h₂ => ?_) fun _ _ e => e))
  exact wpAny_bind (wpAny_of_eq hpos h₂)
theorem eAttr {value : Expr} {attr : Str} {pos : Pos} {env : Env} {Q : Value → Shared → Prop}
    (h : W w A (eval value env) (fun o s₁ => W w A (getAttr o attr true) Q s₁) s)
    (he : attributeBase value attr env (eval value env) = eval value env := by rfl) : W w A (eval (.Attribute value attr pos) env) Q s := by
  refine Attribute_any_ h ?_
  show (do let o ← attributeBase value attr env (eval value env); standAt pos.atName; let r ← holding [o] (getAttr o attr true); letTemporaryGo value o r; pure r) = _
  rw [he]
end
end
section
/-- a sequence object -/
def qR (a : Addr) (c : Value) (d : Option Addr) (vs : List Value) : Res := cR a fun o => ∃ n, o = ⟨c, d, .seq vs.toArray n, #[]⟩
abbrev lR (a : Addr) (vs : List Value) : Res := qR a (.type "list") none vs
abbrev tR (a : Addr) (vs : List Value) : Res := qR a (.type "tuple") none vs
section
variable {w : World} {A : Around} {g : Heap} {z s s' : Shared} {M M' R : List Res} {a x C : Addr} {c : Value} {d : Option Addr} {vs ws : List Value} {o : Obj}
theorem qR_at (H : Hs g z M s) (t : Take (qR a c d vs) M M') : ∃ n, s.heap.get? a = some ⟨c, d, .seq vs.toArray n, #[]⟩ := by
  obtain ⟨o, e, n, rfl⟩ := H.get t; exact ⟨n, e⟩
theorem isL (H : Hs g z M s) (t : Take (lR a vs) M M') : s.heap.IsList a vs.toArray := by
  obtain ⟨n, e⟩ := qR_at H t; exact ⟨_, e, rfl, n, rfl⟩
theorem put_seq (H : Hs g z M s) (t : Take (qR a c d vs) M M') (f : Array Value → Array Value) (hf : f vs.toArray = ws.toArray) (tk : Nat) :
    Hs g z (qR a c d ws :: M') { s with heap := s.heap.update a (Obj.mapSeq f), toks := tk } := by
  obtain ⟨n, e⟩ := qR_at H t
  refine (H.take t).put (fun b q => q) (fun b o nf e' => (Heap.get?_update_other _ _ (Ne.symm nf)).trans e') ?_
  have : Obj.mapSeq f ⟨c, d, .seq vs.toArray n, #[]⟩ = ⟨c, d, .seq ws.toArray (if ws.toArray.size == vs.toArray.size then n else n + 1), #[]⟩ := by simp only [Obj.mapSeq, hf]
  exact ⟨_, Heap.get?_update_self _ e (by rw [this]; rfl), _, this⟩
theorem fresh_size (s : Shared) : s.heap.get? s.heap.objs.size = none := by
  cases q : s.heap.get? s.heap.objs.size with
  | none => rfl
  | some o => exact absurd (Heap.lt_size q) (Nat.lt_irrefl _)
theorem new_obj {p : Obj → Prop} (H : Hs g z M s) (hp : p o) (ho : o.isFreed = false) (tk : Nat) : Hs g z (cR s.heap.objs.size p :: M) { s with heap := s.heap.push o, toks := tk } :=
  H.new (keeps_push s o tk) (fun b e => e ▸ fresh_size s) ⟨o, Heap.get?_push_size _ ho, hp⟩
theorem new_list {Q : Value → Shared → Prop} (H : Hs g z M s) (hsz : vs.length ≤ sizeLine) (q : ∀ a s', Hs g z (lR a vs :: M) s' → Q (.ref a) s') : W w A (newList vs) Q s :=
  wpAny_newObj_type (q _ _ (new_obj H ⟨0, rfl⟩ rfl s.toks)) (by show vs.toArray.size ≤ sizeLine; simpa using hsz)

theorem look_ty {M : Model} {h : Heap} (e : h.get? x = some o) (hc : o.cls = .ref C) : Looks M h (typeOf (.ref x)) (.ref C) := hc ▸ (Looks.ld e).andThen .now
theorem check_own {i owner n : String} {self : Value} {rest : List Value} {Q : Unit → Shared → Prop} (hk : builtinKind i = some .slot ∨ builtinKind i = some .method) (hs : splitId i = some (owner, n))
    (hi : Looks (model pr w) s.heap (isInstance self (.type owner)) true) (ha : argsOk i ⟨self :: rest, []⟩) (q : Q () s) : W w A (checkBuiltinCall i ⟨self :: rest, []⟩) Q s := by
  rcases hk with hk | hk <;>
  · simp only [checkBuiltinCall, hk, hs]
    refine wpAny_bind (hi.here ?_)
    simp only [Bool.not_true, Bool.false_eq_true, if_false]
    cases hsig : Manifest.signature? i with
    | none => exact wpAny_pure q
    | some sig =>
      simp only [argsOk, hsig] at ha
      have h2 : Bind.checkArgs i sig ⟨self :: rest, []⟩ = pure () := ha
      show wpAny _ A (Bind.checkArgs i sig ⟨self :: rest, []⟩) Q _ s
      rw [h2]; exact wpAny_pure q
theorem own_call {id : String} {B : Builtin} {rest : List Value} {Q : Value → Shared → Prop} (X : (Kf w).In s.heap) (hx : s.heap.get? x = some o) (hc : o.cls = .ref C) (hp : plainId id = true) (entry : entryFor table id = some B)
    (ha : argsOk id ⟨.ref x :: rest, []⟩)
    (h : wpAny (model pr w) A.in1 (B ⟨.ref x :: rest, []⟩) (fun fin s' => match fin with | .done f => (match f with | .ret v => Q v s' | _ => False) | .again c' => c'.quiet = true ∧ codeAny (model pr w) A c' (wants Q fun _ _ => False) s') (fun _ _ => False) s)
    (hk : builtinKind id = some .slot ∨ builtinKind id = some .method := by first | exact .inl (by decide +kernel) | exact .inr (by decide +kernel)) (hs : (splitId id).map (·.1) = some "list" := by decide +kernel) (hm : mroIn (Kf w) C (.type "list") = some true := by kernel_rfl) :
    W w A (call (.builtin id) (.ref x :: rest)) Q s := by
  obtain ⟨⟨_, n⟩, hs, rfl⟩ := Option.map_eq_some_iff.mp hs
  refine wpAny_call (codeAny_call_builtin hp entry (check_own hk hs ((look_ty hx hc).andThen (looks_mroIn X hm)) ha (wpAny_mono h (fun fin s' h' => ?_) fun _ _ f => f.elim)))
  rcases fin with f | c'
  · cases f <;> first | exact h' | exact h'.elim
  · exact h'
theorem own_special {name : Str} {id : String} (X : (Kf w).In s.heap) (hx : s.heap.get? x = some o) (hc : o.cls = .ref C) (e : findIn (Kf w) (.ref C) name = some (some (.builtin id))) :
    Looks (model pr w) s.heap (specialOf (.ref x) name) (some (.builtin id)) := (look_ty hx hc).andThen (looks_findIn X e)
theorem own_callSpecial {name : Str} {id : String} {args : List Value} {Q : Option Value → Shared → Prop} (X : (Kf w).In s.heap) (hx : s.heap.get? x = some o) (hc : o.cls = .ref C)
    (hb : ∀ self, bindSpecial (.builtin id) self = pure (.builtin id, [self])) (h : W w A (call (.builtin id) (.ref x :: args)) (fun v s' => Q (some v) s') s) (e : findIn (Kf w) (.ref C) name = some (some (.builtin id)) := by kernel_rfl) :
    W w A (callSpecial? (.ref x) name args) Q s := by
  unfold callSpecial?
  refine wpAny_bind ((own_special X hx hc e).here ?_)
  dsimp only
  rw [hb]
  exact wpAny_holding (wpAny_bind (wpAny_pure (wpAny_bind (wpAny_mono h (fun v s' h' => wpAny_pure h') fun _ _ h' => h'))))
theorem own_callNone {name : Str} {args : List Value} {Q : Option Value → Shared → Prop} (X : (Kf w).In s.heap) (hx : s.heap.get? x = some o) (hc : o.cls = .ref C)
    (q : Q none s) (e : findIn (Kf w) (.ref C) name = some none := by kernel_rfl) : W w A (callSpecial? (.ref x) name args) Q s := by
  unfold callSpecial?
  exact wpAny_bind (((look_ty hx hc).andThen (looks_findIn X e)).here (wpAny_pure q))

/-- len of an own list -/
theorem own_len_body {n : Nat} {Q : Value → Shared → Prop} (X : (Kf w).In s.heap) (hx : s.heap.get? x = some ⟨.ref 356, d, .seq vs.toArray n, #[]⟩) (hsz : vs.length ≤ sizeLine)
    (q : Q (.int vs.length (s.toks + 1)) { s with toks := s.toks + 1 + 1 }) : W w A (Builtin.«len» ⟨[.ref x], []⟩) (fun fin s' => ∃ r, fin = .done (.ret r) ∧ Q r s') s := by
  have hl : sizeLine = 2 ^ 24 := rfl
  unfold Builtin.«len»
  refine wpAny_bind (m := oneArg "len" _) (wpAny_pure ?_)
  refine wpAny_bind (m := callSpecial? (.ref x) (Str.ofString "__len__")) (own_callSpecial X hx rfl slot_list_len.bind (own_call X hx rfl slot_list_len.plain entry_list_len (args_list_len _) ?_))
  show wpAny _ _ (do retInt (← seqSize x)) _ _ s
  unfold seqSize
  refine wpAny_bind (wpAny_bind (wpAny_load hx ?_))
  refine wpAny_pure (wpAny_bind (wpAny_mkInt (wpAny_pure ?_)))
  show wpAny _ _ _ _ _ { s with toks := s.toks + 1 }
  refine wpAny_bind (wpAny_holding (wpAny_pure ?_))
  refine wpAny_bind (wpAny_letGo ?_)
  show wpAny _ _ (if ((vs.toArray.size : Nat) : Int) < 0 then _ else _) _ _ _
  rw [if_neg (by omega)]
  show wpAny _ _ (if ((vs.toArray.size : Nat) : Int) ≥ 2 ^ 63 then _ else _) _ _ _
  rw [if_neg (by simp only [List.size_toArray]; omega)]
  exact wpAny_bind (wpAny_mkInt (wpAny_pure ⟨_, rfl, by simpa using q⟩))
theorem own_len {n : Nat} {Q : Value → Shared → Prop} (X : (Kf w).In s.heap) (hx : s.heap.get? x = some ⟨.ref 356, d, .seq vs.toArray n, #[]⟩) (hsz : vs.length ≤ sizeLine)
    (q : Q (.int vs.length (s.toks + 1)) { s with toks := s.toks + 1 + 1 }) : W w A (call (.builtin "len") [.ref x]) Q s :=
  Calls.call_function_entry kind_len plain_len entry_len (args_len1 _) (own_len_body X hx hsz q)
theorem own_truthy {n : Nat} {Q : Bool → Shared → Prop} (X : (Kf w).In s.heap) (hx : s.heap.get? x = some ⟨.ref 356, d, .seq vs.toArray n, #[]⟩) (hsz : vs.length ≤ sizeLine)
    (q : Q (!vs.isEmpty) { s with toks := s.toks + 1 + 1 }) : W w A (truthy (.ref x)) Q s := by
  have hne : ((vs.length : Int) != 0) = !vs.isEmpty := by cases vs <;> simp <;> omega
  have key : W w A (runValue (.builtin "len" ⟨[.ref x], []⟩)) (fun r s' => r = .int vs.length (s.toks + 1) ∧ Q (!vs.isEmpty) s') s := by
    refine wpAny_runValue (codeAny_builtin entry_len ?_)
    rw [Around.under_plainId plain_len _]
    exact wpAny_mono (own_len_body (Q := fun r s' => r = .int vs.length (s.toks + 1) ∧ Q (!vs.isEmpty) s') X hx hsz ⟨rfl, q⟩)
      (fun fin s' h' => by obtain ⟨r, rfl, hq⟩ := h'; exact hq) fun _ _ e => e
  unfold truthy
  refine wpAny_bind (own_callNone (name := Str.ofString "__bool__") X hx rfl ?_)
  refine wpAny_bind ((own_special (name := Str.ofString "__len__") (id := "list.__len__") X hx rfl (by kernel_rfl)).here ?_)
  refine wpAny_bind (wpAny_mono key (fun r s' h' => ?_) fun _ _ e => e)
  obtain ⟨rfl, hq⟩ := h'
  show wpAny _ _ (pure ((vs.length : Int) != 0)) _ _ _
  rw [hne]; exact wpAny_pure hq
theorem own_callUnless {name : Str} {id : String} {refuse : Sem Value} {Q : Option Value → Shared → Prop} (X : (Kf w).In s.heap) (hx : s.heap.get? x = some o) (hc : o.cls = .ref C)
    (hb : ∀ self, bindSpecial (.builtin id) self = pure (.builtin id, [self])) (h : W w A (call (.builtin id) [.ref x]) (fun v s' => Q (some v) s') s) (e : findIn (Kf w) (.ref C) name = some (some (.builtin id)) := by kernel_rfl) :
    W w A (callSpecialIfBoundUnlessNone? (.ref x) name refuse) Q s := by
  simp only [callSpecialIfBoundUnlessNone?, bindSpecialIfBound?]
  refine wpAny_holding (wpAny_bind (wpAny_bind ((own_special X hx hc e).here ?_)))
  simp only [hb]
  refine wpAny_bind (wpAny_askSetting (wpAny_ite ?_))
  have fin : W w A (if (Value.builtin id == Value.none) = true then (refuse >>= fun v => pure (some v)) else (call (.builtin id) [.ref x] >>= fun v => pure (some v))) Q s := by
    simp only [builtin_beq_none, Bool.false_eq_true, if_false]
    exact wpAny_bind (wpAny_mono h (fun v s' h' => wpAny_pure h') fun _ _ h' => h')
  split
  · exact wpAny_bind (wpAny_pure (wpAny_pure fin))
  · exact wpAny_tryCatch (wpAny_bind (wpAny_pure (wpAny_pure fin)))
/-- iter -/
theorem own_iter {n : Nat} {Q : Value → Shared → Prop} (X : (Kf w).In s.heap) (hx : s.heap.get? x = some ⟨.ref 356, d, .seq vs.toArray n, #[]⟩)
    (q : Q (.ref s.heap.objs.size) { s with heap := s.heap.push { cls := .type "list_iterator", data := .fields #[.ref x, .int 0 0] } }) : W w A (pyIter (.ref x)) Q s := by
  unfold pyIter
  refine wpAny_bind ((own_special (id := "list.__iter__") X hx rfl (by kernel_rfl)).here ?_)
  show wpAny _ A (callSpecialIfBoundUnlessNone? (.ref x) "__iter__" _ >>= _) Q _ s
  refine wpAny_bind (own_callUnless X hx rfl slot_list_iter.bind ?_)
  refine own_call X hx rfl slot_list_iter.plain entry_list_iter (args_list_iter _) ?_
  show wpAny _ _ (do ret (← newFields "list_iterator" [.ref x, rawInt 0])) _ _ s
  refine wpAny_bind (wpAny_newObj_type (wpAny_pure ?_))
  refine wpAny_bind (wpAny_specialOf (T := "list_iterator") ⟨_, Heap.get?_push_size _ rfl, rfl⟩ slot_listiter_next.lookup (wpAny_pure q))
theorem any_next_item {it l : Addr} {i : Nat} {n : Nat} {v : Value} {Q : Option Value → Shared → Prop} {sl} (hit : s.heap.IsListIter it l i) (hl : s.heap.get? l = some ⟨c, d, .seq vs.toArray n, sl⟩) (hx : vs[i]? = some v)
    (hQ : ∀ h', h'.IsListIter it l (i + 1) → Heap.SameBut it s.heap h' → Q (some v) { s with heap := h' }) : W w A (pyNext (.ref it)) Q s := by
  obtain ⟨o, ho, hc, hd⟩ := id hit
  unfold pyNext
  refine wpAny_bind (wpAny_attempt (wpAny_callSpecial?_slot (name := Str.ofString "__next__") hit.typeIs slot_listiter_next
    (wpAny_call_entry slot_listiter_next hit.typeIs entry_listiter_next ?_ (args_listiter_next _))))
  show wpAny _ _ (field (.ref it) 0 >>= _) _ _ s
  refine wpAny_bind (wpAny_field ho hd (x := .ref l) rfl ?_)
  show wpAny _ _ (if (Value.ref l == Value.none) = true then _ else _) _ _ s
  rw [if_neg (show ¬ ((Value.ref l == Value.none) = true) from Bool.false_ne_true)]
  show wpAny _ _ (field (.ref it) 1 >>= _) _ _ s
  refine wpAny_bind (wpAny_field ho hd (x := .int i 0) rfl ?_)
  show wpAny _ _ (seqItems? (.ref l) >>= _) _ _ s
  refine wpAny_bind (wpAny_seqItems hl rfl ?_)
  have hx' : vs.toArray[i]? = some v := by simpa using hx
  simp only [Int.toNat_natCast, hx']
  refine wpAny_bind (wpAny_setField ho hd (by simp) (wpAny_pure ⟨v, rfl, wpAny_pure (hQ _ ?_ (Heap.SameBut.update ..))⟩))
  exact ⟨_, Heap.get?_update_self _ ho (Obj.isFreed_of_fields (Obj.data_mapFields hd _)), (Obj.cls_mapFields ..).trans hc, by
    rw [Obj.data_mapFields hd]; simp [rawInt]⟩
/-- extend by a plain list, of a list or an own one -/
theorem seq_extendW {n n2 : Nat} {b : Addr} {Q : Value → Shared → Prop} (hx : s.heap.get? x = some ⟨c, d, .seq vs.toArray n, #[]⟩) (hb : s.heap.get? b = some (listOf ws.toArray n2)) (hsz : vs.length + ws.length ≤ sizeLine)
    (q : Q .none { s with heap := s.heap.update x (Obj.mapSeq fun xs => xs ++ ws.toArray) }) :
    wpAny (model pr w) A (Builtin.List.listExtendWith (.ref x) (.ref b) .none) (fun fin s' => ∃ v, fin = .done (.ret v) ∧ Q v s') (fun _ _ => False) s := by
  have hz' : (vs.toArray ++ ws.toArray).size ≤ sizeLine + 1 := by simp; omega
  have hc1 : vs.toArray.size ≤ sizeLine := by simp; omega
  have hd : ¬(!vs.toArray.isEmpty && Builtin.List.listTooLong (vs.toArray.size + ws.toArray.size)) = true := extend_door (by simpa using hsz)
  unfold Builtin.List.listExtendWith
  refine wpAny_bind (wpAny_typeOf ⟨_, hb, rfl⟩ ?_)
  rw [if_pos (by rw [show (Value.type "list" == Value.type "list") = true by decide, Bool.or_true, Bool.true_or])]
  unfold Builtin.List.listItems
  refine wpAny_bind (wpAny_bind (wpAny_seqItems hb rfl (wpAny_pure ?_)))
  refine wpAny_bind (wpAny_bind (wpAny_seqItems hx rfl (wpAny_pure ?_)))
  rw [if_neg hd]
  exact wpAny_bind (wpAny_updateSeq hx rfl (wpAny_pure ⟨_, rfl, q⟩) hc1 hz')
theorem seq_extend {n n2 : Nat} {b : Addr} {Q : Value → Shared → Prop} (hx : s.heap.get? x = some ⟨c, d, .seq vs.toArray n, #[]⟩) (hb : s.heap.get? b = some (listOf ws.toArray n2)) (hsz : vs.length + ws.length ≤ sizeLine)
    (q : Q .none { s with heap := s.heap.update x (Obj.mapSeq fun xs => xs ++ ws.toArray) }) :
    wpAny (model pr w) A (Builtin.«list.extend» ⟨[.ref x, .ref b], []⟩) (fun fin s' => ∃ v, fin = .done (.ret v) ∧ Q v s') (fun _ _ => False) s := by
  show wpAny _ _ (Builtin.List.listExtendWith (.ref x) (.ref b) .none) _ _ _
  exact seq_extendW hx hb hsz q
/-- list.__init__ with a plain list -/
theorem seq_init {n n2 : Nat} {b : Addr} {Q : Value → Shared → Prop} (hne : x ≠ b) (hx : s.heap.get? x = some ⟨c, d, .seq vs.toArray n, #[]⟩) (hb : s.heap.get? b = some (listOf ws.toArray n2)) (h1 : vs.length ≤ sizeLine) (hsz : ws.length ≤ sizeLine)
    (q : ∀ s', s' = { s with heap := (s.heap.update x (Obj.mapSeq fun _ => #[])).update x (Obj.mapSeq fun xs => xs ++ ws.toArray) } → Q .none s') :
    wpAny (model pr w) A (Builtin.«list.__init__» ⟨[.ref x, .ref b], []⟩) (fun fin s' => ∃ v, fin = .done (.ret v) ∧ Q v s') (fun _ _ => False) s := by
  have hx2 : (s.heap.update x (Obj.mapSeq fun _ => #[])).get? x = some ⟨c, d, .seq ([] : List Value).toArray _, #[]⟩ := Heap.get?_update_self (Obj.mapSeq (fun _ => (#[] : Array Value))) hx rfl
  have hb2 : (s.heap.update x (Obj.mapSeq fun _ => #[])).get? b = some (listOf ws.toArray n2) := (Heap.get?_update_other _ _ hne).trans hb
  unfold Builtin.«list.__init__»
  dsimp only
  rw [if_neg (by simp), if_neg (by simp)]
  unfold Builtin.List.listItems
  refine wpAny_bind (wpAny_bind (wpAny_seqItems hx rfl (wpAny_pure ?_)))
  refine wpAny_bind (wpAny_updateSeq hx rfl ?_ (by simpa using h1) (Nat.zero_le _))
  refine wpAny_bind (wpAny_letGo ?_)
  exact seq_extendW hx2 hb2 (by simpa using hsz) (q _ rfl)
/-- remove -/
theorem seq_remove_loop {n : Nat} {v : Value} {e : Value → Bool} {j : Nat} {Q : Value → Shared → Prop} (hx : s.heap.get? x = some ⟨c, d, .seq vs.toArray n, #[]⟩) (hsz : vs.length ≤ sizeLine)
    (he : ∀ y, y ∈ vs → MeetsSeq.EqGives y v (e y)) (hj : j < vs.length) (hit : e vs[j] = true) (q : Q .none { s with heap := s.heap.update x (Obj.mapSeq fun xs => xs.eraseIdxIfInBounds j) }) :
    ∀ k i : Nat, j - i = k → i ≤ j → (∀ m (hm : m < vs.length), i ≤ m → m < j → e vs[m] = false) →
    wpAny (model pr w) A.in1 (Builtin.«list.remove.loop» ⟨[.ref x, v, rawInt i], []⟩) (fun fin s' => match fin with | .done f => (match f with | .ret v => Q v s' | _ => False) | .again c' => c'.quiet = true ∧ codeAny (model pr w) A c' (wants Q fun _ _ => False) s') (fun _ _ => False) s := by
  intro k
  induction k with
  | zero =>
    intro i hk hij hno
    obtain ⟨hp, g, dd, tk, os⟩ := s
    have hij' : i = j := by omega
    subst hij'
    wp_walk using wpAny_loadPart' hx
    have hi : vs.toArray[((i : Nat) : Int).toNat]? = some vs[i] := by simp [hj]
    rw [hi]
    refine wpAny_bind (he _ (List.getElem_mem hj) pr w _ _ _ _ ?_)
    rw [hit]
    have hc1 : vs.toArray.size ≤ sizeLine := by simp; omega
    have hz' : (vs.toArray.eraseIdxIfInBounds i).size ≤ sizeLine + 1 := Nat.le_trans (MeetsSeq.size_erased _ _) (Nat.le_succ_of_le hc1)
    wp_walk using (wpAny_updateSeq hx rfl (hz := hc1) (_hz' := hz')), wpAny_loadPart' hx
    simpa using q
  | succ k ih =>
    intro i hk hij hno
    have hlt : i < vs.length := by omega
    have ih' := ih (i + 1) (by omega) (by omega) (fun m hm h1 h2 => hno m hm (by omega) h2)
    obtain ⟨hp, g, dd, tk, os⟩ := s
    wp_walk using wpAny_loadPart' hx
    have hi : vs.toArray[((i : Nat) : Int).toNat]? = some vs[i] := by simp [hlt]
    have hc : ((i : Int) + 1) = ((i + 1 : Nat) : Int) := by push_cast; rfl
    rw [hi]
    refine wpAny_bind (he _ (List.getElem_mem hlt) pr w _ _ _ _ ?_)
    rw [hno i hlt (Nat.le_refl _) (by omega)]
    wp_walk
    rw [hc]
    refine ⟨plainId_quiet MeetsSeq.plain_remove_loop _, codeAny_builtin MeetsSeq.entry_remove_loop ?_⟩
    rw [Around.under_plainId MeetsSeq.plain_remove_loop _]
    refine wpAny_mono ih' (fun fin s' h' => ?_) fun _ _ f => f.elim
    rcases fin with f | c'
    · cases f <;> first | exact h' | exact h'.elim
    · exact h'
theorem seq_remove {n : Nat} {v : Value} {e : Value → Bool} {j : Nat} {Q : Value → Shared → Prop} (hx : s.heap.get? x = some ⟨c, d, .seq vs.toArray n, #[]⟩) (hsz : vs.length ≤ sizeLine)
    (he : ∀ y, y ∈ vs → MeetsSeq.EqGives y v (e y)) (hj : j < vs.length) (hit : e vs[j] = true) (hno : ∀ m (hm : m < vs.length), m < j → e vs[m] = false)
    (q : Q .none { s with heap := s.heap.update x (Obj.mapSeq fun xs => xs.eraseIdxIfInBounds j) }) :
    wpAny (model pr w) A.in1 (Builtin.«list.remove» ⟨[.ref x, v], []⟩) (fun fin s' => match fin with | .done f => (match f with | .ret v => Q v s' | _ => False) | .again c' => c'.quiet = true ∧ codeAny (model pr w) A c' (wants Q fun _ _ => False) s') (fun _ _ => False) s := by
  have L := seq_remove_loop (w := w) (A := A) hx hsz he hj hit q j 0 rfl (Nat.zero_le _) (fun m hm _ h => hno m hm h)
  obtain ⟨hp, g, dd, tk, os⟩ := s
  wp_walk using wpAny_loadPart' hx
  refine ⟨plainId_quiet MeetsSeq.plain_remove_loop _, codeAny_builtin MeetsSeq.entry_remove_loop ?_⟩
  rw [Around.under_plainId MeetsSeq.plain_remove_loop _]
  refine wpAny_mono L (fun fin s' h' => ?_) fun _ _ f => f.elim
  rcases fin with f | c'
  · cases f <;> first | exact h' | exact h'.elim
  · exact h'
/-- a slice of a sequence object -/
theorem seq_slice {n : Nat} {sl : Addr} {vl vu st : Value} {lo hi : Option Int} {Q : Value → Shared → Prop} (hx : s.heap.get? x = some ⟨c, d, .seq vs.toArray n, #[]⟩) (hs : s.heap.IsSliceOf sl vl vu .none) (pl : IsPart vl lo) (pu : IsPart vu hi) (hsz : vs.length ≤ sizeLine)
    (q : Q (.ref s.heap.objs.size) { s with heap := s.heap.push { cls := .type "list", data := .seq (slicePick vs.toArray lo hi none) } }) :
    wpAny (model pr w) A (Builtin.«list.__getitem__» ⟨[.ref x, .ref sl], []⟩) (fun fin s' => ∃ v, fin = .done (.ret v) ∧ Q v s') (fun _ _ => False) s := by
  obtain ⟨os, hos, hcs, hds⟩ := id hs
  have hTs : s.TypeIs (.ref sl) "slice" := ⟨os, hos, hcs⟩
  show wpAny _ _ (Builtin.List.listSubscript? (.ref sl) >>= _) _ _ s
  refine wpAny_bind ?_
  unfold Builtin.List.listSubscript?
  refine wpAny_bind (wpAny_specialOf hTs slice_no_index ?_)
  simp only [Option.isNone_none, if_true]
  refine wpAny_pure ?_
  show wpAny _ _ (typeOf (.ref sl) >>= _) _ _ s
  refine wpAny_bind (wpAny_typeOf hTs ?_)
  rw [if_neg (by decide)]
  rw [listSliceParts_eq]
  refine wpAny_bind (wpAny_bind (wpAny_field hos hds (x := .none) rfl (wpAny_bind (wpAny_listPart .none ?_))))
  rw [if_neg (show ¬ ((rawPart none == rawInt 0) = true) from Bool.false_ne_true)]
  refine wpAny_bind (wpAny_field hos hds (x := vl) rfl (wpAny_bind (wpAny_listPart pl ?_)))
  refine wpAny_bind (wpAny_field hos hds (x := vu) rfl (wpAny_bind (wpAny_listPart pu (wpAny_pure ?_))))
  refine wpAny_bind (m := Builtin.List.listItems (.ref x)) ?_
  unfold Builtin.List.listItems
  refine wpAny_bind (wpAny_seqItems hx rfl (wpAny_pure ?_))
  refine wpAny_bind (wpAny_of_eq (sliceIndices_raw lo hi none vs.toArray.size (by simp)) ?_)
  exact wpAny_bind (wpAny_newObj_type (wpAny_pure ⟨_, rfl, q⟩) (Nat.le_trans (slicePick_size_le vs.toArray lo hi none) (by simpa using hsz)))
def sel1 (start stop step : Int) (i : Nat) : Bool :=
  if step > 0 then start ≤ i && i < stop && (i - start) % step == 0
  else stop < i && i ≤ start && (start - i) % (-step) == 0
theorem sel1_one (a n i : Nat) (h : i < n) : sel1 a n 1 i = decide (a ≤ i) := by
  unfold sel1
  have h1 : ((i : Int) < (n : Int)) := by omega
  simp only [show (1 : Int) > 0 by decide, if_true, Int.emod_one, beq_self_eq_true, Bool.and_true, h1, decide_true]
  by_cases h : a ≤ i
  · simp [h]
  · simp [h]
theorem sel1_take (vs : List Value) (a : Nat) : ∀ (k : Nat) (n : Nat), k + vs.length ≤ n → ((vs.zipIdx k).filterMap fun (x, j) => if sel1 a n 1 j then none else some x) = vs.take (a - k) := by
  induction vs with
  | nil => intro k n _; simp
  | cons v r ih =>
    intro k n h
    rw [List.length_cons] at h
    rw [List.zipIdx_cons, List.filterMap_cons, ih (k + 1) n (by omega)]
    dsimp only
    rw [sel1_one a n k (by omega)]
    by_cases hk : a ≤ k
    · rw [decide_eq_true hk, show a - k = 0 by omega, show a - (k + 1) = 0 by omega]; simp
    · rw [decide_eq_false hk, show a - k = (a - (k + 1)) + 1 by omega]; simp
theorem seq_delslice {n : Nat} {sl : Addr} {vl vu : Value} {lo : Option Int} {Q : Value → Shared → Prop} (hx : s.heap.get? x = some ⟨c, d, .seq vs.toArray n, #[]⟩) (hs : s.heap.IsSliceOf sl vl vu .none) (pl : IsPart vl lo) (pu : IsPart vu none) (hsz : vs.length ≤ sizeLine)
    (q : ∀ f : Array Value → Array Value, f vs.toArray = (vs.take (lo.elim 0 (clipAt vs.length))).toArray → Q .none { s with heap := s.heap.update x (Obj.mapSeq f) }) :
    wpAny (model pr w) A (Builtin.«list.__delitem__» ⟨[.ref x, .ref sl], []⟩) (fun fin s' => ∃ v, fin = .done (.ret v) ∧ Q v s') (fun _ _ => False) s := by
  obtain ⟨os, hos, hcs, hds⟩ := id hs
  have hTs : s.TypeIs (.ref sl) "slice" := ⟨os, hos, hcs⟩
  show wpAny _ _ (Builtin.List.listSubscript? (.ref sl) >>= _) _ _ s
  refine wpAny_bind ?_
  unfold Builtin.List.listSubscript?
  refine wpAny_bind (wpAny_specialOf hTs slice_no_index ?_)
  simp only [Option.isNone_none, if_true]
  refine wpAny_pure ?_
  show wpAny _ _ (typeOf (.ref sl) >>= _) _ _ s
  refine wpAny_bind (wpAny_typeOf hTs ?_)
  rw [if_neg (by decide)]
  rw [listSliceParts_eq]
  refine wpAny_bind (wpAny_bind (wpAny_field hos hds (x := .none) rfl (wpAny_bind (wpAny_listPart .none ?_))))
  rw [if_neg (show ¬ ((rawPart none == rawInt 0) = true) from Bool.false_ne_true)]
  refine wpAny_bind (wpAny_field hos hds (x := vl) rfl (wpAny_bind (wpAny_listPart pl ?_)))
  refine wpAny_bind (wpAny_field hos hds (x := vu) rfl (wpAny_bind (wpAny_listPart pu (wpAny_pure ?_))))
  refine wpAny_bind (m := Builtin.List.listItems (.ref x)) ?_
  unfold Builtin.List.listItems
  refine wpAny_bind (wpAny_seqItems hx rfl (wpAny_pure ?_))
  refine wpAny_bind (wpAny_of_eq (sliceIndices_raw lo none none vs.toArray.size (by simp)) ?_)
  rw [sliceBounds_plain]
  refine wpAny_bind (wpAny_rule (wpAny_bind ?_))
  refine wpAny_updateSeq hx rfl ?_ (by simpa using hsz) ?_
  · refine wpAny_bind (wpAny_letGo (wpAny_pure ⟨_, rfl, q _ ?_⟩))
    have := sel1_take vs (lo.elim 0 (clipAt vs.length)) 0 vs.length (by omega)
    rw [Nat.sub_zero] at this
    simp only [List.size_toArray, Option.elim]
    exact congrArg List.toArray this
  · simp only [List.size_toArray]
    refine Nat.le_trans (List.length_filterMap_le _ _) ?_
    simp only [List.length_zipIdx]; omega
end
end
section
section
variable {w : World} {A : Around} {g : Heap} {z s s' : Shared} {M M' R : List Res} {a x C : Addr} {c : Value} {d : Option Addr} {vs ws : List Value} {o : Obj}
/-- append: the argument is evaluated first -/
theorem app_ {l : Addr} {pos : Pos} {e : Sem Value} {Q : Value → Shared → Prop}
    (h : W w A e (fun v s₁ => ∃ g z M M' vs, Hs g z M s₁ ∧ Take (lR l vs) M M' ∧ vs.length < sizeLine ∧ ∀ s₂, Hs g z (lR l (vs ++ [v]) :: M') s₂ → Q .none s₂) s) :
    W w A (callWith pos (.builtin "list.append") [.ref l] [(false, e)] []) Q s := by
  refine P.append_list (wpAny_mono h (fun v s₁ h => ?_) fun _ _ f => f)
  obtain ⟨g, z, M, M', vs, H, t, hsz, q⟩ := h
  obtain ⟨n, e⟩ := qR_at H t
  exact ⟨vs.toArray, n, by simp; omega, e, q _ (put_seq H t _ (by simp) _)⟩
theorem pop_ {l : Addr} {pos : Pos} {v : Value} {Q : Value → Shared → Prop} (H : Hs g z M s) (t : Take (lR l (vs ++ [v])) M M') (hsz : vs.length < sizeLine)
    (q : ∀ s', Hs g z (lR l vs :: M') s' → Q v s') : W w A (callWith pos (.builtin "list.pop") [.ref l] [] []) Q s := by
  obtain ⟨n, e⟩ := qR_at H t
  refine P.pop_list (items := (vs ++ [v]).toArray) (n := n) (y := v) e (by simp) (q _ (put_seq H t _ ?_ _)) (by simp; omega)
  simp [Array.eraseIdxIfInBounds, List.eraseIdx_append_of_length_le]
/-- a method of an own list that is list's -/
theorem ownM {x : Addr} {id : String} {B : Builtin} {pos : Pos} {args : List (Bool × Sem Value)} {Q : Value → Shared → Prop} (hplain : args.any (·.1) = false)
    (h : W w A (evalArgs (.builtin id) true args []) (fun a s₁ => a.kw = [] ∧ ∃ z M d vs, Hs g z M s₁ ∧ (∃ M', Take (qR x (.ref 356) d vs) M M') ∧ argsOk id ⟨.ref x :: a.pos, []⟩ ∧
      wpAny (model pr w) A.in1 (B ⟨.ref x :: a.pos, []⟩) (fun fin s' => match fin with | .done f => (match f with | .ret v => Q v s' | _ => False) | .again c' => c'.quiet = true ∧ codeAny (model pr w) A c' (wants Q fun _ _ => False) s') (fun _ _ => False) s₁) s)
    (B0 : Base w g) (hp : plainId id = true) (entry : entryFor table id = some B)
    (hk : builtinKind id = some .slot ∨ builtinKind id = some .method := by first | exact .inl (by decide +kernel) | exact .inr (by decide +kernel)) (hs : (splitId id).map (·.1) = some "list" := by decide +kernel) :
    W w A (callWith pos (.builtin id) [.ref x] args []) Q s := by
  refine Calls.callWith_builtin hplain (wpAny_mono h (fun a s₁ h₁ => ?_) fun _ _ x => x)
  obtain ⟨hkw, z, M, d, vs, H, ⟨M', t⟩, hok, hb⟩ := h₁
  rw [hkw]
  obtain ⟨n, e⟩ := qR_at H t
  exact own_call (B0.x H) e rfl hp entry hok hb hk hs
theorem toFin {t : Sem PySem.Fin} {Q : Value → Shared → Prop} (h : wpAny (model pr w) A.in1 t (fun fin s' => ∃ v, fin = .done (.ret v) ∧ Q v s') (fun _ _ => False) s) :
    wpAny (model pr w) A.in1 t (fun fin s' => match fin with | .done f => (match f with | .ret v => Q v s' | _ => False) | .again c' => c'.quiet = true ∧ codeAny (model pr w) A c' (wants Q fun _ _ => False) s') (fun _ _ => False) s :=
  wpAny_mono h (fun fin s' h => by obtain ⟨v, rfl, q⟩ := h; exact q) fun _ _ f => f

/-- a Domain: the object, its attributes, and their two lists -/
def ddR (dd hl sl : Addr) : Res := cR dd fun o => ∃ h1 h2 t1 t2 n, o = dictOf [⟨h1, .str "_hidden" t1, .ref hl⟩, ⟨h2, .str "_states" t2, .ref sl⟩] n
def domR (d dd hl sl : Addr) (xs hs ss : List Value) : Res := sR [qR d (.ref 356) (some dd) xs, ddR dd hl sl, lR hl hs, lR sl ss]
variable {dd hl sl dm : Addr} {xs hs ss : List Value}
theorem dom_open (H : Hs g z M s) (t : Take (domR dm dd hl sl xs hs ss) M M') : Hs g z (qR dm (.ref 356) (some dd) xs :: ddR dd hl sl :: lR hl hs :: lR sl ss :: M') s := (H.take t).open_
theorem dom_shut (H : Hs g z (qR dm (.ref 356) (some dd) xs :: ddR dd hl sl :: lR hl hs :: lR sl ss :: M) s) : Hs g z (domR dm dd hl sl xs hs ss :: M) s := Hs.shut (l := [_, _, _, _]) H
theorem dom_hidden {b : Bool} {Q : Value → Shared → Prop} (B : Base w g) (H : Hs g z M s) (t : Take (qR dm (.ref 356) (some dd) xs) M M') (t2 : Take (ddR dd hl sl) M R) (q : Hs g z M { s with toks := s.toks + 1 } → Q (.ref hl) { s with toks := s.toks + 1 }) :
    W w A (getAttr (.ref dm) "_hidden" b) Q s := by
  obtain ⟨n, e⟩ := qR_at H t
  obtain ⟨_, e2, h1, h2, t1, t2, n2, rfl⟩ := H.get t2
  exact gaL (v := .ref hl) (B.x H) e rfl rfl rfl e2 (by kernel_rfl) rfl (q (H.tok _))
theorem dom_states {b : Bool} {Q : Value → Shared → Prop} (B : Base w g) (H : Hs g z M s) (t : Take (qR dm (.ref 356) (some dd) xs) M M') (t2 : Take (ddR dd hl sl) M R) (q : Hs g z M { s with toks := s.toks + 1 } → Q (.ref sl) { s with toks := s.toks + 1 }) :
    W w A (getAttr (.ref dm) "_states" b) Q s := by
  obtain ⟨n, e⟩ := qR_at H t
  obtain ⟨_, e2, h1, h2, t1, t2, n2, rfl⟩ := H.get t2
  exact gaL (v := .ref sl) (B.x H) e rfl rfl rfl e2 (by kernel_rfl) rfl (q (H.tok _))
theorem lst_meth {name : Str} {id : String} {l : Addr} {pl : Sem Bool} {Q : Value × List Value → Shared → Prop} (H : Hs g z M s) (t : Take (lR l vs) M M') (slot : Slot "list" name id) (hty : typeOf (.builtin id) = pure (.type "method_descriptor"))
    (q : Q (.builtin id, [.ref l]) s) : W w A (getMethod (.ref l) name pl) Q s := by
  obtain ⟨n, e⟩ := qR_at H t
  exact getMethod_builtin ⟨_, e, rfl⟩ PySem.F.plainAttrs_list slot hty (fun a q => by cases q; exact ⟨_, e, rfl⟩) q
/-- names of the module and of the language -/
theorem nmB {env : Env} {pos : Pos} {x : Str} {v : Value} {Q : Value → Shared → Prop} (B : Base w g) (H : Hs g z M s) (q : Q v s) (hv : bootBuiltins x = some v := by kernel_rfl) (hmiss : nsIn (Kf w) mainGlobals x = some none := by kernel_rfl)
    (hk : env.scope.kind = .function := by kernel_rfl) (hx : env.kindOf x = some .globalImplicit := by kernel_rfl) (hg : env.globals = mainGlobals := by kernel_rfl) (hb : env.builtins = builtinsNs := by kernel_rfl) (hn : (x == ("__name__" : Str)) = false := by kernel_rfl)
    (hd : (x == ("__debug__" : Str)) = false := by kernel_rfl) : W w A (eval (.Name x pos) env) Q s := by
  obtain ⟨mg, hmg⟩ := B.gl
  obtain ⟨mb, hmb, hbb⟩ := B.bt
  exact Name_function_global hk hx (loadGlobal_builtin (mg := mg) (mb := mb) (hg ▸ hmg.keeps H.base) (mg_none_of B.X hmg hmiss) (hb ▸ hmb.keeps H.base) ((hbb x fun e => by rw [e] at hn; cases hn).trans hv) q) hd
theorem nmG {env : Env} {pos : Pos} {x : Str} {v : Value} {Q : Value → Shared → Prop} (B : Base w g) (H : Hs g z M s) (q : Q v s) (hv : nsIn (Kf w) mainGlobals x = some (some v) := by kernel_rfl)
    (hk : env.scope.kind = .function := by kernel_rfl) (hx : env.kindOf x = some .globalImplicit := by kernel_rfl) (hg : env.globals = mainGlobals := by kernel_rfl) (hd : (x == ("__debug__" : Str)) = false := by kernel_rfl) : W w A (eval (.Name x pos) env) Q s := by
  obtain ⟨mg, hmg⟩ := B.gl
  exact Name_function_global hk hx (loadGlobal_global (mg := mg) (hg ▸ hmg.keeps H.base) (mg_of B.X hmg hv) q) hd
theorem cw1 {pos : Pos} {id : String} {t : Sem Value} {Q : Value → Shared → Prop} (h : W w A t (fun v s₁ => W w A (call (.builtin id) [v]) Q s₁) s) : W w A (callWith pos (.builtin id) [] [(false, t)] []) Q s :=
  Calls.callWith_builtin rfl (Calls.evalArgs_plain (Calls.spliced_cons (wpAny_mono h (fun _ _ h₁ => Calls.spliced_nil h₁) fun _ _ e => e)))
theorem evalArgs1 {f : Value} {t : Sem Value} {Q : Args → Shared → Prop} (h : W w A t (fun v s₁ => Q ⟨[v], []⟩ s₁) s) : W w A (evalArgs f true [(false, t)] []) Q s :=
  Calls.evalArgs_plain (Calls.spliced_cons (wpAny_mono h (fun _ _ h₁ => Calls.spliced_nil h₁) fun _ _ e => e))
/-- a def of the text is called -/
theorem cwF {fa : Addr} {pos : Pos} {first : List Value} {args : List (Bool × Sem Value)} {Q : Value → Shared → Prop}
    (h : W w A (evalArgs (.ref fa) true args []) (fun a s₁ => a.kw = [] ∧ (Kf w).In s₁.heap ∧ W w A (call (.ref fa) (first ++ a.pos)) Q s₁) s) (hf : fnOk w fa = true := by kernel_rfl) :
    W w A (callWith pos (.ref fa) first args []) Q s := by
  unfold fnOk at hf
  split at hf
  · rename_i oc od fd sl ho
    refine Calls.callWith_function (o := ⟨oc, od, .func fd, sl⟩) (fd := fd) (wpAny_mono h (fun a s₁ h₁ => ?_) fun _ _ f => f)
    obtain ⟨hk, X, h₁⟩ := h₁
    exact ⟨⟨X _ _ ho, rfl⟩, by rw [hk]; exact h₁⟩
  · cases hf
theorem dom_len {Q : Value → Shared → Prop} (B : Base w g) (H : Hs g z M s) (t : Take (qR dm (.ref 356) (some dd) xs) M M') (hsz : xs.length ≤ sizeLine) (q : ∀ t s', Hs g z M s' → Q (.int xs.length t) s') : W w A (call (.builtin "len") [.ref dm]) Q s := by
  obtain ⟨n, e⟩ := qR_at H t
  exact own_len (B.x H) e hsz (q _ _ (H.tok _))
theorem fn_push {Q : Value → Shared → Prop} (hA : Ok 5 A) (B : Base w g) (H : Hs g z M s) (t : Take (domR dm dd hl sl xs hs ss) M M') (h1 : xs.length ≤ sizeLine) (h2 : ss.length < sizeLine)
    (q : ∀ s' t, Hs g z (domR dm dd hl sl xs hs (ss ++ [.int xs.length t]) :: M') s' → Q .none s') : W w A (call (.ref 339) [.ref dm]) Q s := by
  have hb : BindsTo s (fdOf w 339) ⟨[.ref dm], []⟩ [("self", .ref dm)] := BindsTo.of_eq (by kernel_rfl)
  refine call_fn (k := 4) (l := [("self", some (.ref dm))]) hA B (dom_open H t) hb ?_
  intro L s' H hA'
  with_unfolding_all refine wpAny_execs_cons ?_
  refine wpAny_Expr ?_ (by kernel_rfl) (by kernel_rfl)
  refine callM ?_
  refine eAttr ?_
  refine nmL H (by walk_at "m_take") (by walk_at "m_mem") ?_
  refine dom_states B H (by walk_at "m_take") (by walk_at "m_take") fun H => ?_
  refine lst_meth H (by walk_at "m_take") PySem.F.slot_list_append PySem.F.type_list_append ?_
  refine app_ ?_
  refine Call_Name1 ?_
  refine nmB (v := .builtin "len") B H ?_
  refine cw1 ?_
  refine nmL H (by walk_at "m_take") (by walk_at "m_mem") ?_
  refine dom_len B H (by walk_at "m_take") h1 fun t s1 H => ?_
  refine ⟨g, z, _, _, _, H, by walk_at "m_take", h2, fun s2 H => ?_⟩
  refine wpAny_execs_nil ?_
  exact q _ _ (dom_shut (H.sub (by walk_at "m_sub")))
end
end
section
section
variable {w : World} {A : Around} {g : Heap} {z s s' : Shared} {M M' R : List Res} {a b : Int} {t u : Tok}
theorem add_ {Q : Value → Shared → Prop} (H : Hs g z M s) (q : ∀ t s', Hs g z M s' → Q (.int (a + b) t) s') : W w A (binaryOp .Add (.int a t) (.int b u)) Q s := add_int (q _ _ (H.tok _))
theorem sub_ {Q : Value → Shared → Prop} (H : Hs g z M s) (q : ∀ t s', Hs g z M s' → Q (.int (a - b) t) s') : W w A (binaryOp .Sub (.int a t) (.int b u)) Q s := PyProof.Rows.sub_int (q _ _ (H.tok _))
theorem iadd_ {Q : Value → Shared → Prop} (H : Hs g z M s) (q : ∀ t s', Hs g z M s' → Q (.int (a + b) t) s') : W w A (inplaceOp .Add (.int a t) (.int b u)) Q s := PyProof.Rows.iadd_int (q _ _ (H.tok _))
theorem neg_ {Q : Value → Shared → Prop} (H : Hs g z M s) (q : ∀ t s', Hs g z M s' → Q (.int (-a) t) s') : W w A (unaryOp .USub (.int a t)) Q s := PyProof.Rows.neg_int (q _ _ (H.tok _))
theorem mul_ {Q : Value → Shared → Prop} (H : Hs g z M s) (hm : IntMulOk a b) (q : ∀ t s', Hs g z M s' → Q (.int (a * b) t) s') : W w A (binaryOp .Mult (.int a t) (.int b u)) Q s := PyProof.Rows.mul_int (q _ _ (H.tok _)) hm
theorem mod_ {Q : Value → Shared → Prop} (H : Hs g z M s) (hb : b ≠ 0) (q : ∀ t s', Hs g z M s' → Q (.int (a.fmod b) t) s') : W w A (binaryOp .Mod (.int a t) (.int b u)) Q s := PyProof.Rows.mod_int hb (q _ _ (H.tok _))
theorem con_ {env : Env} {k : Nat} {pos : Pos} {Q : Value → Shared → Prop} (H : Hs g z M s) (q : ∀ t s', Hs g z M s' → Q (.int a t) s') : W w A (eval (.Constant (.int a) k pos) env) Q s := wpAny_Constant_int (q _ _ (H.tok _))
theorem int_truthy {Q : Bool → Shared → Prop} (q : Q (a != 0) s) : W w A (truthy (.int a t)) Q s := PyProof.Rows.truthy_int q
theorem sub_sl {env : Env} {value : Expr} {lower upper : Option Expr} {p pos : Pos} {Q : Value → Shared → Prop}
    (h : W w A (eval value env) (fun o s₁ => W w A (eval (.Slice lower upper none p) env) (fun i s₂ => W w A (getitemInPython o) (fun _ s₃ => W w A (getItem o i) Q s₃) s₂) s₁) s) :
    W w A (eval (.Subscript value (.Slice lower upper none p) pos) env) Q s := by
  rw [eval_Subscript]
  refine wpAny_bind (wpAny_mono h (fun o s₁ h₁ => wpAny_bind (wpAny_holding (wpAny_mono h₁ (fun i s₂ h₂ => wpAny_bind (wpAny_standAt ?_)) fun _ _ x => x))) fun _ _ x => x)
  refine wpAny_bind (wpAny_mono h₂ (fun b s₃ h₃ => ?_) fun _ _ f => f)
  refine wpAny_bind ?_
  show wpAny _ _ (operate [i, o] (getItem o i)) _ _ _
  exact wpAny_operating (wpAny_mono h₃ (fun r s₃ h₃ => wpAny_bind (wpAny_letTemporaryGo (wpAny_pure h₃))) fun _ _ x => x)
theorem gip_list {l : Addr} {vs : List Value} {Q : Bool → Shared → Prop} (H : Hs g z M s) (t : Take (lR l vs) M M') (q : Q false s) : W w A (getitemInPython (.ref l)) Q s := by
  obtain ⟨n, e⟩ := qR_at H t
  unfold getitemInPython
  exact wpAny_bind (wpAny_specialOf (T := "list") ⟨_, e, rfl⟩ list_getitem_lookup (wpAny_pure q))
/-- a slice of a list -/
theorem lst_slice {env : Env} {value : Expr} {lower upper : Option Expr} {p pos : Pos} {Q : Value → Shared → Prop}
    (h : W w A (eval value env) (fun o s₁ => W w A (evalPart lower env) (fun vl s₂ => W w A (evalPart upper env) (fun vu s₃ =>
      ∃ g z M M' l vs lo hi, Hs g z M s₃ ∧ Take (lR l vs) M M' ∧ vs.length ≤ sizeLine ∧ o = .ref l ∧ IsPart vl lo ∧ IsPart vu hi ∧
        ∀ a s', Hs g z (lR a (slicePick vs.toArray lo hi none).toList :: M) s' → Q (.ref a) s') s₂) s₁) s) : W w A (eval (.Subscript value (.Slice lower upper none p) pos) env) Q s := by
  refine sub_sl (wpAny_mono h (fun o s₁ h₁ => wpAny_Slice (wpAny_mono h₁ (fun vl s₂ h₂ => wpAny_mono h₂ (fun vu s₃ h₃ => ?_) fun _ _ f => f) fun _ _ f => f)) fun _ _ f => f)
  obtain ⟨g, z, M, M', l, vs, lo, hi, H, t, hsz, rfl, pl, pu, q⟩ := h₃
  rw [evalPart_none]
  refine wpAny_pure ?_
  have H1 := new_obj (p := fun _ => True) (o := { cls := .type "slice", data := .fields #[vl, vu, .none] }) H trivial rfl s₃.toks
  refine gip_list H1 (Take.tail t) ?_
  refine wpAny_getItem_list_slice (isL H1 (Take.tail t)) (Heap.IsSliceOf.new ..) pl pu .none (by simp) ?_ (by simpa using hsz)
  have H2 := new_obj (p := fun o => ∃ n, o = ⟨.type "list", none, .seq (slicePick vs.toArray lo hi none).toList.toArray n, #[]⟩) (o := { cls := .type "list", data := .seq (slicePick vs.toArray lo hi none) }) H1 ⟨0, by simp⟩ rfl s₃.toks
  exact q _ _ (H2.sub (Sub.take Take.head (Sub.drop Sub.refl)))
/-- del of a slice up to the end -/
theorem lst_delslice {env : Env} {value : Expr} {lower upper : Option Expr} {p pos : Pos} {Q : Unit → Shared → Prop}
    (h : W w A (eval value env) (fun o s₁ => W w A (evalPart lower env) (fun vl s₂ => W w A (evalPart upper env) (fun vu s₃ =>
      ∃ g z M M' l vs lo, Hs g z M s₃ ∧ Take (lR l vs) M M' ∧ vs.length ≤ sizeLine ∧ o = .ref l ∧ IsPart vl lo ∧ IsPart vu none ∧
        ∀ s', Hs g z (lR l (vs.take (lo.elim 0 (clipAt vs.length))) :: M') s' → Q () s') s₂) s₁) s) :
    W w A (delete (.Subscript value (.Slice lower upper none p) pos) env) Q s := by
  refine wpAny_delete_Subscript (wpAny_mono h (fun o s₁ h₁ => wpAny_Slice (wpAny_mono h₁ (fun vl s₂ h₂ => wpAny_mono h₂ (fun vu s₃ h₃ => ?_) fun _ _ f => f) fun _ _ f => f)) fun _ _ f => f)
  obtain ⟨g, z, M, M', l, vs, lo, H, t, hsz, rfl, pl, pu, q⟩ := h₃
  rw [evalPart_none]
  refine wpAny_pure ?_
  have H1 := new_obj (p := fun _ => True) (o := { cls := .type "slice", data := .fields #[vl, vu, .none] }) H trivial rfl s₃.toks
  obtain ⟨n, e⟩ := qR_at H1 (Take.tail t)
  refine wpAny_delItem_slot ⟨_, e, rfl⟩ (by decide) PySem.F.slot_list_delitem ?_
  refine wpAny_call_entry PySem.F.slot_list_delitem ⟨_, e, rfl⟩ PySem.F.entry_list_delitem ?_ (PySem.F.args_list_delitem_2 _ _)
  refine seq_delslice (Q := fun _ s' => Q () s') e (Heap.IsSliceOf.new ..) pl pu hsz fun f hf => ?_
  exact q _ ((put_seq H1 (Take.tail t) f hf _).sub (Sub.take Take.head (Sub.drop Sub.refl)))
end
end
section
section
variable {w : World} {A : Around} {g : Heap} {z s s' : Shared} {M M' R : List Res} {dd hl sl dm : Addr} {xs hs ss bs : List Value}
theorem dom_meth {name : Str} {f : Value} {pl : Sem Bool} {Q : Value × List Value → Shared → Prop} (B : Base w g) (H : Hs g z M s) (t : Take (qR dm (.ref 356) (some dd) xs) M M') (t2 : Take (ddR dd hl sl) M R)
    (hn : ∀ h1 h2 t1 t2 v1 v2, getL name [⟨h1, .str "_hidden" t1, v1⟩, ⟨h2, .str "_states" t2, v2⟩] = some none) (q : Q (f, [.ref dm]) s) (ok : methOkL w 356 name f = true) : W w A (getMethod (.ref dm) name pl) Q s := by
  obtain ⟨n, e⟩ := qR_at H t
  obtain ⟨_, e2, h1, h2, t1, t2, n2, rfl⟩ := H.get t2
  exact gmL (B.x H) e rfl rfl rfl e2 (hn ..) q ok
/-- a slice of a Domain is a plain list -/
theorem own_slice {env : Env} {value : Expr} {p pos : Pos} {Q : Value → Shared → Prop} (B : Base w g)
    (h : W w A (eval value env) (fun o s₁ => ∃ z M M' x d vs, Hs g z M s₁ ∧ Take (qR x (.ref 356) d vs) M M' ∧ vs.length ≤ sizeLine ∧ o = .ref x ∧
        ∀ a s', Hs g z (lR a vs :: M) s' → Q (.ref a) s') s) : W w A (eval (.Subscript value (.Slice none none none p) pos) env) Q s := by
  refine sub_sl (wpAny_mono h (fun o s₁ h₁ => ?_) fun _ _ f => f)
  obtain ⟨z, M, M', x, d, vs, H, t, hsz, rfl, q⟩ := h₁
  refine wpAny_Slice ?_
  rw [evalPart_none]
  refine wpAny_pure (wpAny_pure (wpAny_pure ?_))
  have H1 := new_obj (p := fun _ => True) (o := { cls := .type "slice", data := .fields #[.none, .none, .none] }) H trivial rfl s₁.toks
  obtain ⟨n, e⟩ := qR_at H1 (Take.tail t)
  have X := B.x H1
  unfold getitemInPython
  refine wpAny_bind ((own_special (id := "list.__getitem__") X e rfl (by kernel_rfl)).here (wpAny_pure ?_))
  unfold getItem
  refine wpAny_holding (wpAny_bind ?_)
  unfold sequenceKey
  refine wpAny_bind ((look_ty e rfl).here ?_)
  dsimp only
  refine wpAny_bind ?_
  show wpAny _ _ (isSubtype (.ref 356) (.type "collections.deque") >>= _) _ _ _
  refine wpAny_bind ((looks_mroIn X (r := false) (by kernel_rfl)).here (wpAny_pure ?_))
  refine wpAny_pure ?_
  refine wpAny_bind (own_callSpecial X e rfl slot_list_getitem.bind (own_call X e rfl slot_list_getitem.plain entry_list_getitem (args_list_getitem _ _) (toFin ?_)))
  refine seq_slice (st := .none) (lo := none) (hi := none) e (Heap.IsSliceOf.new ..) .none .none hsz ?_
  rw [slicePick_all]
  have H2 := new_obj (p := fun o => ∃ n, o = ⟨.type "list", none, .seq vs.toArray n, #[]⟩) (o := { cls := .type "list", data := .seq vs.toArray }) H1 ⟨0, rfl⟩ rfl s₁.toks
  exact wpAny_pure (q _ _ (H2.sub (Sub.take Take.head (Sub.drop Sub.refl))))
theorem fn_pop {t : Tok} {Q : Value → Shared → Prop} (hA : Ok 5 A) (B : Base w g) (H : Hs g z M s) (tk : Take (domR dm dd hl sl xs (hs ++ bs) (ss ++ [.int ((xs.length : Int) + bs.length) t])) M M') (h1 : xs.length + bs.length + hs.length ≤ 1000) (h2 : ss.length ≤ 1000)
    (q : ∀ s', Hs g z (domR dm dd hl sl (xs ++ bs) hs ss :: M') s' → Q .none s') : W w A (call (.ref 346) [.ref dm]) Q s := by
  have hb : BindsTo s (fdOf w 346) ⟨[.ref dm], []⟩ [("self", .ref dm)] := BindsTo.of_eq (by kernel_rfl)
  have hsl : sizeLine = 2 ^ 24 := rfl
  refine call_fn (k := 4) (l := [("self", some (.ref dm)), ("diff", none)]) hA B (dom_open H tk) hb ?_
  intro L s' H hA'
  with_unfolding_all refine wpAny_execs_cons ?_
  refine wpAny_Assign_Name ?_ (by kernel_rfl)
  refine wpAny_BinOp ?_
  refine callM ?_
  refine eAttr ?_
  refine nmL (by assumption) (by walk_at "m_take") (by walk_at "m_mem") ?_
  refine dom_states B H (by walk_at "m_take") (by walk_at "m_take") fun H => ?_
  refine lst_meth H (by walk_at "m_take") PySem.F.slot_list_pop PySem.F.type_list_pop ?_
  refine pop_ H (by walk_at "m_take") (by omega) fun s1 H => ?_
  refine Call_Name1 ?_
  refine nmB (v := .builtin "len") B H ?_
  refine cw1 ?_
  refine nmL (by assumption) (by walk_at "m_take") (by walk_at "m_mem") ?_
  refine dom_len B H (by walk_at "m_take") (by omega) fun t1 s2 H => ?_
  refine sub_ H fun t2 s3 H => ?_
  refine stL H (by walk_at "m_take") (by walk_at "m_upl") fun s4 H => ?_
  show W _ _ _ _ _
  refine wpAny_execs_cons ?_
  refine wpAny_If ?_
  refine isTrue_plain ?_
  refine nmL (by assumption) (by walk_at "m_take") (by walk_at "m_mem") ?_
  refine int_truthy ?_
  have hd : ((xs.length : Int) + bs.length - xs.length) = bs.length := by omega
  rw [hd]
  rw [hd] at H
  cases bs with
  | nil =>
    rw [if_neg (by decide)]
    refine wpAny_execs_nil ?_
    show W _ _ _ _ _
    refine wpAny_execs_nil ?_
    rw [List.append_nil] at H
    exact q _ (by rw [List.append_nil]; exact dom_shut (H.sub (by walk_at "m_sub")))
  | cons b0 br =>
    rw [if_pos (by simp; omega)]
    generalize hbs : b0 :: br = bs at *
    have hpos : 1 ≤ bs.length := by rw [← hbs]; simp
    refine wpAny_execs_cons ?_
    refine wpAny_Expr ?_ (by kernel_rfl) (by kernel_rfl)
    refine callM ?_
    refine nmL (by assumption) (by walk_at "m_take") (by walk_at "m_mem") ?_
    refine dom_meth (f := .builtin "list.extend") B H (by walk_at "m_take") (by walk_at "m_take") (by intros; kernel_rfl) ?_ (by kernel_rfl)
    refine ownM rfl ?_ B PySem.F.slot_list_extend.plain PySem.F.entry_list_extend
    refine Calls.evalArgs_plain (Calls.spliced_cons ?_)
    refine lst_slice ?_
    refine eAttr ?_
    refine nmL (by assumption) (by walk_at "m_take") (by walk_at "m_mem") ?_
    refine dom_hidden B H (by walk_at "m_take") (by walk_at "m_take") fun H => ?_
    rw [evalPart_some, evalPart_none]
    refine wpAny_UnaryOp ?_
    refine nmL (by assumption) (by walk_at "m_take") (by walk_at "m_mem") ?_
    refine neg_ H fun t3 s5 H => ?_
    refine wpAny_pure ⟨g, z, _, _, hl, hs ++ bs, _, _, H, (by walk_at "m_take"), by simp; omega, rfl, .int _ _, .none, fun a s6 H => ?_⟩
    have hsl2 : (slicePick (hs ++ bs).toArray (some (-(bs.length : Int))) none none).toList = bs := by
      rw [slicePick_last _ _ hpos]; simp
    rw [hsl2] at H
    refine Calls.spliced_nil ⟨rfl, _, _, _, _, H, ⟨_, (by walk_at "m_take")⟩, PySem.F.args_list_extend_2 _ _, toFin ?_⟩
    obtain ⟨n1, e1⟩ := qR_at (a := dm) H (by walk_at "m_take")
    obtain ⟨n2, e2⟩ := qR_at (a := a) H (by walk_at "m_take")
    refine seq_extend e1 e2 (by omega) ?_
    have H := put_seq (a := dm) (ws := xs ++ bs) H (by walk_at "m_take") (fun xs => xs ++ bs.toArray) (by simp) s6.toks
    show W _ _ _ _ _
    refine wpAny_execs_cons ?_
    refine wpAny_Delete (wpAny_deleteEach_cons ?_)
    refine lst_delslice ?_
    refine eAttr ?_
    refine nmL (by assumption) (by walk_at "m_take") (by walk_at "m_mem") ?_
    refine dom_hidden B H (by walk_at "m_take") (by walk_at "m_take") fun H => ?_
    rw [evalPart_some, evalPart_none]
    refine wpAny_UnaryOp ?_
    refine nmL (by assumption) (by walk_at "m_take") (by walk_at "m_mem") ?_
    refine neg_ H fun t4 s7 H => ?_
    refine wpAny_pure ⟨g, z, _, _, hl, hs ++ bs, _, H, (by walk_at "m_take"), by simp; omega, rfl, .int _ _, .none, fun s8 H => ?_⟩
    have hk : (hs ++ bs).take ((some (-(bs.length : Int))).elim 0 (clipAt (hs ++ bs).length)) = hs := by
      simp only [Option.elim, clipAt_neg _ _ hpos, List.length_append]; simp
    rw [hk] at H
    refine wpAny_deleteEach_nil ?_
    show W _ _ _ _ _
    refine wpAny_execs_nil ?_
    show W _ _ _ _ _
    refine wpAny_execs_nil ?_
    exact q _ (dom_shut (H.sub (by walk_at "m_sub")))
end
end
section
section
variable {w : World} {A : Around} {g : Heap} {z s s' : Shared} {M M' R : List Res} {dd hl sl dm : Addr} {xs hs ss bs : List Value}
theorem all_int {vs : List Value} {ns : List Int} (h : IntsAre vs ns) : ∀ y ∈ vs, ∃ a t, y = .int a t ∧ a ∈ ns := by
  induction h with
  | nil => intro y hy; cases hy
  | cons n t _ ih =>
    intro y hy
    rcases List.mem_cons.mp hy with rfl | hy
    · exact ⟨n, t, rfl, List.mem_cons_self⟩
    · obtain ⟨a, u, e, m⟩ := ih y hy; exact ⟨a, u, e, List.mem_cons_of_mem _ m⟩
def isI (v : Int) : Value → Bool
  | .int a _ => a == v
  | _ => false
theorem fn_hide {v : Int} {t u : Tok} {ps qs : List Value} {pn qn : List Int} {Q : Value → Shared → Prop} (hA : Ok 5 A) (B : Base w g) (H : Hs g z M s) (tk : Take (domR dm dd hl sl (ps ++ .int v t :: qs) hs ss) M M')
    (hp : IntsAre ps pn) (hq : IntsAre qs qn) (hv : v ∉ pn) (h1 : ps.length + qs.length + hs.length ≤ 1000)
    (q : ∀ s', Hs g z (domR dm dd hl sl (ps ++ qs) (hs ++ [.int v u]) ss :: M') s' → Q .none s') : W w A (call (.ref 353) [.ref dm, .int v u]) Q s := by
  have hb : BindsTo s (fdOf w 353) ⟨[.ref dm, .int v u], []⟩ [("self", .ref dm), ("value", .int v u)] := BindsTo.of_eq (by kernel_rfl)
  have hsl : sizeLine = 2 ^ 24 := rfl
  refine call_fn (k := 4) (l := [("self", some (.ref dm)), ("value", some (.int v u))]) hA B (dom_open H tk) hb ?_
  intro L s' H hA'
  with_unfolding_all refine wpAny_execs_cons ?_
  refine wpAny_Expr ?_ (by kernel_rfl) (by kernel_rfl)
  refine callM ?_
  refine nmL (by assumption) (by walk_at "m_take") (by walk_at "m_mem") ?_
  refine dom_meth (f := .builtin "list.remove") B H (by walk_at "m_take") (by walk_at "m_take") (by intros; kernel_rfl) ?_ (by kernel_rfl)
  refine ownM rfl ?_ B PySem.F.slot_list_remove.plain PySem.F.entry_list_remove
  refine Calls.evalArgs_plain (Calls.spliced_cons ?_)
  refine nmL (by assumption) (by walk_at "m_take") (by walk_at "m_mem") ?_
  refine Calls.spliced_nil ⟨rfl, _, _, _, _, H, ⟨_, (by walk_at "m_take")⟩, PySem.F.args_list_remove_2 _ _, ?_⟩
  obtain ⟨n1, e1⟩ := qR_at (a := dm) H (by walk_at "m_take")
  have hint : ∀ y ∈ ps ++ .int v t :: qs, ∃ a t, y = .int a t := by
    intro y hy
    rcases List.mem_append.mp hy with hy | hy
    · obtain ⟨a, t, e, _⟩ := all_int hp y hy; exact ⟨a, t, e⟩
    · rcases List.mem_cons.mp hy with rfl | hy
      · exact ⟨v, t, rfl⟩
      · obtain ⟨a, t, e, _⟩ := all_int hq y hy; exact ⟨a, t, e⟩
  refine seq_remove (e := isI v) (j := ps.length) e1 (by simp; omega) ?_ (by simp) (by simp [isI]) ?_ ?_
  · intro y hy
    obtain ⟨a, t', rfl⟩ := hint y hy
    exact MeetsSeq.EqGives.int a v t' u
  · intro m hm hlt
    rw [List.getElem_append_left hlt]
    obtain ⟨a, t', e, hm'⟩ := all_int hp ps[m] (List.getElem_mem hlt)
    rw [e]
    show (a == v) = false
    rw [beq_eq_false_iff_ne]
    rintro rfl; exact hv hm'
  have H := put_seq (a := dm) (ws := ps ++ qs) H (by walk_at "m_take") (fun xs => xs.eraseIdxIfInBounds ps.length) (by
    simp [Array.eraseIdxIfInBounds, List.eraseIdx_append_of_length_le]) s'.toks
  show W _ _ _ _ _
  refine wpAny_execs_cons ?_
  refine wpAny_Expr ?_ (by kernel_rfl) (by kernel_rfl)
  refine callM ?_
  refine eAttr ?_
  refine nmL (by assumption) (by walk_at "m_take") (by walk_at "m_mem") ?_
  refine dom_hidden B H (by walk_at "m_take") (by walk_at "m_take") fun H => ?_
  refine lst_meth H (by walk_at "m_take") PySem.F.slot_list_append PySem.F.type_list_append ?_
  refine app_ ?_
  refine nmL (by assumption) (by walk_at "m_take") (by walk_at "m_mem") ?_
  refine ⟨g, z, _, _, _, H, (by walk_at "m_take"), by omega, fun s2 H => ?_⟩
  show W _ _ _ _ _
  refine wpAny_execs_nil ?_
  exact q _ (dom_shut (H.sub (by walk_at "m_sub")))
theorem fn_reset {Q : Value → Shared → Prop} (hA : Ok 5 A) (B : Base w g) (H : Hs g z M s) (tk : Take (domR dm dd hl sl xs hs ss) M M') (h1 : xs.length + hs.length ≤ 1000) (h2 : ss.length ≤ 1000)
    (q : ∀ s', Hs g z (domR dm dd hl sl (xs ++ hs) [] [] :: M') s' → Q .none s') : W w A (call (.ref 332) [.ref dm]) Q s := by
  have hb : BindsTo s (fdOf w 332) ⟨[.ref dm], []⟩ [("self", .ref dm)] := BindsTo.of_eq (by kernel_rfl)
  have hsl : sizeLine = 2 ^ 24 := rfl
  refine call_fn (k := 4) (l := [("self", some (.ref dm))]) hA B (dom_open H tk) hb ?_
  intro L s' H hA'
  with_unfolding_all refine wpAny_execs_cons ?_
  refine wpAny_Expr ?_ (by kernel_rfl) (by kernel_rfl)
  refine callM ?_
  refine nmL (by assumption) (by walk_at "m_take") (by walk_at "m_mem") ?_
  refine dom_meth (f := .builtin "list.extend") B H (by walk_at "m_take") (by walk_at "m_take") (by intros; kernel_rfl) ?_ (by kernel_rfl)
  refine ownM rfl ?_ B PySem.F.slot_list_extend.plain PySem.F.entry_list_extend
  refine Calls.evalArgs_plain (Calls.spliced_cons ?_)
  refine eAttr ?_
  refine nmL (by assumption) (by walk_at "m_take") (by walk_at "m_mem") ?_
  refine dom_hidden B H (by walk_at "m_take") (by walk_at "m_take") fun H => ?_
  refine Calls.spliced_nil ⟨rfl, _, _, _, _, H, ⟨_, (by walk_at "m_take")⟩, PySem.F.args_list_extend_2 _ _, toFin ?_⟩
  obtain ⟨n1, e1⟩ := qR_at (a := dm) H (by walk_at "m_take")
  obtain ⟨n2, e2⟩ := qR_at (a := hl) H (by walk_at "m_take")
  refine seq_extend e1 e2 (by omega) ?_
  have H := put_seq (a := dm) (ws := xs ++ hs) H (by walk_at "m_take") (fun xs => xs ++ hs.toArray) (by simp) (s'.toks + 1)
  show W _ _ _ _ _
  refine wpAny_execs_cons ?_
  refine wpAny_Delete (wpAny_deleteEach_cons ?_)
  refine lst_delslice ?_
  refine eAttr ?_
  refine nmL (by assumption) (by walk_at "m_take") (by walk_at "m_mem") ?_
  refine dom_hidden B H (by walk_at "m_take") (by walk_at "m_take") fun H => ?_
  rw [evalPart_none]
  refine wpAny_pure (wpAny_pure ⟨g, z, _, _, hl, hs, none, H, (by walk_at "m_take"), by omega, rfl, .none, .none, fun s8 H => ?_⟩)
  refine wpAny_deleteEach_nil ?_
  show W _ _ _ _ _
  refine wpAny_execs_cons ?_
  refine wpAny_Delete (wpAny_deleteEach_cons ?_)
  refine lst_delslice ?_
  refine eAttr ?_
  refine nmL (by assumption) (by walk_at "m_take") (by walk_at "m_mem") ?_
  refine dom_states B H (by walk_at "m_take") (by walk_at "m_take") fun H => ?_
  rw [evalPart_none]
  refine wpAny_pure (wpAny_pure ⟨g, z, _, _, sl, ss, none, H, (by walk_at "m_take"), by omega, rfl, .none, .none, fun s9 H => ?_⟩)
  refine wpAny_deleteEach_nil ?_
  show W _ _ _ _ _
  refine wpAny_execs_nil ?_
  simp only [Option.elim, List.take_zero] at H
  exact q _ (dom_shut (H.sub (by walk_at "m_sub")))
end
end
section
section
variable {w : World} {A : Around} {g : Heap} {z s s' : Shared} {M M' R : List Res} {dd hl sl dm : Addr} {xs hs ss bs : List Value}
theorem args_lnew (a b : Value) : argsOk "list.__new__" ⟨[a, b], []⟩ := by unfold argsOk; kernel_rfl
/-- a class below list whose maker is list's -/
noncomputable def makesL (w : World) (C : Addr) : Bool := match (Kf w).lookup C with
  | some ⟨_, _, .cls cd, sl⟩ => !cd.abstract && !cd.hasDel && cd.hasDict && (sl.toList[4]?).join == some (.builtin "list.__new__") && !cd.mro.isEmpty && cd.mro.contains (.ref C) && cd.mro.contains (.type "list") &&
      specialIn (Kf w) (.ref C) "__call__" == some (some (.builtin "type.__call__")) && instIn (Kf w) (.ref C) (.type "type") == some true
  | _ => false
structure MakesL (M : Model) (h : Heap) (C : Addr) : Prop where
  obj : ∃ oc od cd sl, h.get? C = some ⟨oc, od, .cls cd, sl⟩ ∧ cd.abstract = false ∧ cd.hasDel = false ∧ cd.mro.isEmpty = false
  made : Looks M h (Bind.madeBy (.ref C)) (some "list.__new__")
  base : Looks M h (Bind.staticBase (.ref C)) (.ref C)
  self : Looks M h (isSubtype (.ref C) (.ref C)) true
  top : Looks M h (isSubtype (.ref C) (.type "list")) true
  call : Looks M h (specialOf (.ref C) "__call__") (some (.builtin "type.__call__"))
  typ : Looks M h (isInstance (.ref C) (.type "type")) true
theorem makesL_of {M : Model} {h : Heap} (X : (Kf w).In h) {C : Addr} (e : makesL w C = true) : MakesL M h C := by
  unfold makesL at e
  split at e
  · rename_i oc od cd sl ho
    simp only [Bool.and_eq_true, Bool.not_eq_true', beq_iff_eq] at e
    obtain ⟨⟨⟨⟨⟨⟨⟨⟨e1, e2⟩, _⟩, e3⟩, e4⟩, e5⟩, e6⟩, e7⟩, e8⟩ := e
    have hc : clsIn (Kf w) C = some cd := by unfold clsIn; rw [ho]
    have hm : Looks M h (mroOf (.ref C)) cd.mro := (looks_clsIn X hc).andThen .now
    obtain ⟨c, l, hl⟩ : ∃ c l, cd.mro = c :: l := by cases q : cd.mro with | nil => rw [q] at e4; cases e4 | cons c l => exact ⟨c, l, rfl⟩
    have made : Looks M h (Bind.madeBy (.ref C)) (some "list.__new__") := by
      intro A Q E s k q
      unfold Bind.madeBy
      refine wpAny_bind (hm A _ E s k ?_)
      rw [hl, List.forIn_cons]
      refine wpAny_bind (wpAny_bind (wpAny_bind (wpAny_bind (wpAny_loadPart (k _ _ (X _ _ ho)) (wpAny_pure ?_)))))
      dsimp only
      rw [← Array.getElem?_toList, e3]
      exact wpAny_pure (wpAny_pure (wpAny_pure q))
    refine ⟨⟨oc, od, cd, sl, X _ _ ho, e1, e2, e4⟩, made, ?_, looks_mroIn X ?_, looks_mroIn X ?_, looks_specialIn X e7, looks_instIn X e8⟩
    · intro A Q E s k q
      unfold Bind.staticBase
      refine wpAny_bind (hm A _ E s k ?_)
      rw [hl, List.forIn_cons]
      exact wpAny_bind (wpAny_bind (wpAny_bind (made A _ E s k (wpAny_pure (wpAny_pure (wpAny_pure q))))))
    · unfold mroIn; rw [hc, Option.bind_some, if_neg (by rw [e4]; decide), e5]
    · unfold mroIn; rw [hc, Option.bind_some, if_neg (by rw [e4]; decide), e6]
  · cases e
abbrev instObjL (C dx : Addr) : Obj := { cls := .ref C, dict := some dx, data := .seq #[] }
section
variable {C : Addr} {R : Result → Shared → Prop} {h : Heap} {gg : Array GenState} {d : Drawn} {t : Nat} {os : OsState} {a : Value}
theorem new_L (Y : MakesL (model pr w) h C)
    (hq : R (.ok (.ret (.ref (h.objs.size + 1)))) ⟨(h.push emptyDict).push (instObjL C h.objs.size), gg, d, t, os⟩) :
    codeAny (model pr w) A (.call (.builtin "list.__new__") ⟨[.ref C, a], []⟩) R ⟨h, gg, d, t, os⟩ := by
  obtain ⟨⟨oc, od, cd, sl, hC, e1, e2, e4⟩, made, base, self, top, call, typ⟩ := Y
  refine codeAny_of_tree ?_
  show wpAny _ A.in1 (do checkBuiltinCall "list.__new__" ⟨[.ref C, a], []⟩; again (.builtin "list.__new__" ⟨[.ref C, a], []⟩)) _ _ _
  have hk : builtinKind "list.__new__" = some .builtinFn := by decide +kernel
  have hs : splitId "list.__new__" = some ("list", "__new__") := by decide +kernel
  refine wpAny_bind ?_
  have check : W w A.in1 (checkBuiltinCall "list.__new__" ⟨[.ref C, a], []⟩) (fun _ s' => s' = ⟨h, gg, d, t, os⟩) ⟨h, gg, d, t, os⟩ := by
    simp only [checkBuiltinCall, hk, hs]
    have ha := args_lnew (.ref C) a
    have fin : W w A.in1 (match Manifest.signature? "list.__new__" with | some sig => Bind.checkArgs "list.__new__" sig ⟨[.ref C, a], []⟩ | none => pure ()) (fun _ s' => s' = ⟨h, gg, d, t, os⟩) ⟨h, gg, d, t, os⟩ := by
      cases hsig : Manifest.signature? "list.__new__" with
      | none => exact wpAny_pure rfl
      | some sig =>
        simp only [argsOk, hsig] at ha
        have h2 : Bind.checkArgs "list.__new__" sig ⟨[.ref C, a], []⟩ = pure () := ha
        dsimp only
        rw [h2]; exact wpAny_pure rfl
    repeat (first | exact fin | simp only [bne_self_eq_false, Bool.false_eq_true, if_false] | lk)
  refine wpAny_mono check (fun _ s' e => ?_) fun _ _ f => f.elim
  subst e
  refine wpAny_pure ⟨plainId_quiet F.plain_list_new _, codeAny_builtin_stack F.entry_list_new rfl fun p st => ?_⟩
  rw [Around.under_plainId F.plain_list_new _]
  have hown := owner_list_new
  simp only [hown]
  have fin : ∀ A', wpAny (model pr w) A' (do
      let .ref d ← newDict | unsupported "internal:list.__new__"
      ret (← newObj (.ref C) (.seq #[]) (some d))) (fun fin s' => match fin with | .done f => R (.ok f) s' | .again c' => c'.quiet = true ∧ codeAny (model pr w) A c' R s') (fun e s' => R (.error e) s') ⟨h, gg, d, t, os⟩ := by
    intro A'
    refine wpAny_bind ?_
    show wpAny _ _ (newObj _ _ _) _ _ _
    refine wpAny_newObj_type ?_
    show wpAny _ _ (newObj _ _ _ >>= _) _ _ _
    refine wpAny_bind ?_
    show wpAny _ _ (newObjAsIs _ _ _) _ _ _
    unfold newObjAsIs classHasDel
    refine wpAny_bind (wpAny_alloc (wpAny_bind (wpAny_bind (wpAny_load (Heap.get?_push_of_some _ (Heap.get?_push_of_some _ hC)) (wpAny_pure ?_)))))
    rw [e2]
    refine wpAny_pure (wpAny_pure ?_)
    show R _ _
    rw [Heap.size_push]
    exact hq
  repeat (first | exact fin _ | simp only [bne_self_eq_false, Bool.false_eq_true, if_false] | lk)
end
end
end
section
open Builtin Builtin.ObjectAttr
section
variable {w : World} {A : Around} {g : Heap} {z s s' : Shared} {M M' R : List Res} {dd hl sl dm x C dx : Addr} {xs hs ss bs : List Value} {es : List DictEntry} {v : Value} {name : Str} {ox : Obj}
/-- an object's dict, entry by entry -/
def eR (dx : Addr) (es : List DictEntry) : Res := cR dx fun o => ∃ n, o = dictOf es n
/-- a store to an attribute of an own object may pass -/
noncomputable def storeOk (w : World) (C : Addr) (name : Str) (mro : List Value) : Bool :=
  (match clsIn (Kf w) C with | some cd => cd.mro == mro && cd.hasDict | none => false) && mro.contains (.type "object") && !mro.isEmpty && takerIn (Kf w) C name == some none && findIn (Kf w) (.ref C) "__setattr__" == some (some (.builtin "object.__setattr__"))
theorem Hs.imp {r r' : Res} (H : Hs g z (r :: M) s) (hf : ∀ b, r'.fp b → r.fp b) (hr : r.ok s.heap → r'.ok s.heap) : Hs g z (r' :: M) s := by
  have := H.put (h' := s.heap) (t := s.toks) (r := r') hf (fun _ _ _ e => e) (hr (H.ok _ List.mem_cons_self))
  exact this
theorem setA {mro : List Value} {Q : Unit → Shared → Prop} (B : Base w g) (H : Hs g z M s) (hx : s.heap.get? x = some ox) (hcl : ox.cls = .ref C) (hnc : notCls ox = true) (hd : ox.dict = some dx) (t : Take (eR dx es) M M')
    (hl : (getL name es).isSome = true) (hz : ∀ h tk, (putL name h (.str name tk) v es).length ≤ 1000)
    (q : ∀ h tk s', Hs g z (eR dx (putL name h (.str name tk) v es) :: M') s' → Q () s')
    (ok : storeOk w C name mro = true := by kernel_rfl) (pass : ∀ self, refuseLoop self "__setattr__" mro = pure () := by intro _; kernel_rfl) : W w A (setAttr (.ref x) name v) Q s := by
  obtain ⟨od, e, n, rfl⟩ := H.get t
  have X := B.x H
  have I : InstAt s.heap x ox C (some (dictOf es n)) := ⟨hx, hcl, hnc, by rw [hd]; exact e⟩
  unfold storeOk at ok
  simp only [Bool.and_eq_true, beq_iff_eq, Bool.not_eq_true'] at ok
  obtain ⟨⟨⟨⟨o1, o2⟩, o3⟩, o4⟩, o5⟩ := ok
  split at o1
  · rename_i cd hc
    simp only [Bool.and_eq_true, beq_iff_eq] at o1
    obtain ⟨rfl, hd'⟩ := o1
    refine set_plain X I o5 ?_
    have SF := PySem.F.store_object
    have sub : Looks (model pr w) s.heap (isInstance (.ref x) (.type "object")) true := I.type.andThen (looks_mroIn X (by unfold mroIn; rw [hc, Option.bind_some, if_neg (by rw [o3]; decide), o2]))
    refine codeAny_call_builtin SF.slot.plain SF.entry (@check_slot (model pr w) _ _ { s with toks := s.toks + 1 } "object.__setattr__" "object" "__setattr__" (.ref x) [.str name s.toks, v] [] _ SF.kind SF.split sub (SF.args (.ref x) (.str name s.toks) v) ?_)
    obtain ⟨attr, ha, hr⟩ := Option.bind_eq_some_iff.mp o4
    have hm : Looks (model pr w) s.heap (mroOf (.ref C)) cd.mro := (looks_clsIn X hc).andThen .now
    have L3 : Looks (model pr w) s.heap (storeTaker? attr) none := by
      cases attr with
      | none => cases hr; exact .now
      | some a =>
        obtain ⟨b, hb, e⟩ := Option.map_eq_some_iff.mp hr
        refine (looks_takesIn X hb).andThen ?_
        cases b <;> first | (cases e; done) | exact .now
    obtain ⟨hh, gg, dr, tk, os⟩ := s
    rw [osa_eq, refuse_eq]
    refine wpAny_bind (wpAny_bind (I.type.at (wpAny_bind (hm.at ?_))))
    rw [pass]
    refine wpAny_pure (wpAny_bind (I.type.at (wpAny_bind ((looks_findIn X ha).at (wpAny_bind (L3.at ?_))))))
    have hx' := hx
    obtain ⟨oc, odi, oda, osl⟩ := ox
    dsimp only at hcl hd
    subst hcl hd
    refine wpAny_bind (wpAny_pure (wpAny_bind (wpAny_bind (wpAny_loadPart hx (wpAny_bind ((looks_clsIn X hc).at ?_))))))
    rw [hd']
    refine wpAny_pure (a := some dx) (wpAny_bind (wpAny_pure (wpAny_bind ?_)))
    unfold nsSet
    refine wpAny_bind (wpAny_bind (wpAny_askSetting (wpAny_pure (wpAny_bind (wpAny_mkText (wpAny_bind (wpAny_loadPart e ?_)))))))
    dsimp only
    have c : (!es.toArray.any (·.key.isStr name) && es.toArray.any (·.refKey)) = false := by
      rw [← Array.any_toList, ← Array.any_toList]
      unfold getL at hl
      split at hl
      · rename_i en he
        rw [List.any_eq_true.mpr ⟨en, List.mem_of_find?_eq_some he, List.find?_some he⟩]; rfl
      · split at hl
        · cases hl
        · rename_i z; rw [Bool.not_eq_true] at z; rw [z, Bool.and_false]
    rw [aRefKeyMayBeTheName_at, c]
    refine wpAny_updatePart e ?_
    have D' : (Heap.update hh dx (Obj.putName name (PyData.keyHash w.params name) (.str name (tk + 1)) v)).get? dx = some (dictOf (putL name (PyData.keyHash w.params name) (.str name (tk + 1)) v es) (putN name es n)) := by
      rw [← putName_dict]; exact Heap.get?_update_self _ e (by rw [putName_dict]; rfl)
    refine wpAny_bind (wpAny_lookBehind D' (pastItsLine_dict (by rw [List.size_toArray, sizeLine_eq]; have := hz (PyData.keyHash w.params name) (tk + 1); omega)) ?_)
    refine wpAny_pure (q _ _ _ ((H.take t).put (fun b f => f) (fun b o nf e' => (Heap.get?_update_other _ _ (Ne.symm nf)).trans e') ⟨_, D', _, rfl⟩))
  · cases o1
theorem Ok.tcall {k : Nat} {A : Around} (C : Addr) (rest : List Value) (h : Ok (k + 1) A) : Ok k (A.under (.builtin "type.__call__" ⟨.ref C :: rest, []⟩)) := by
  generalize hargs : (⟨.ref C :: rest, []⟩ : Args) = args
  have e : (Code.builtin "type.__call__" args).weight = 1 := by subst hargs; kernel_rfl
  have e2 : (Code.builtin "type.__call__" args).cUnits = 1 := by subst hargs; kernel_rfl
  refine ⟨h.hd, ?_, ?_⟩
  · have := h.dp
    show A.depth + (Code.builtin "type.__call__" args).weight + k ≤ 900
    omega
  · have := h.un
    show A.units + (Code.builtin "type.__call__" args).cUnits + 20 * k ≤ 9000
    omega
/-- a class call: the object is made by object's maker, then its own __init__ is called -/
theorem make_ {k : Nat} {fI : Addr} {args : List Value} {Q : Value → Shared → Prop} (hA : Ok (k + 1) A) (B : Base w g) (H : Hs g z M s)
    (h : ∀ x dx s₁ A', Ok k A' → Hs g z (cR x (· = instObj C dx) :: eR dx [] :: M) s₁ → codeAny (model pr w) A' (.call (.ref fI) ⟨.ref x :: args, []⟩) (wants (fun v s' => v = .none ∧ Q (.ref x) s') fun _ _ => False) s₁)
    (hm : makesIn (Kf w) C = true := by kernel_rfl) (hi : findIn (Kf w) (.ref C) "__init__" = some (some (.ref fI)) := by kernel_rfl) (hf : typeIn (Kf w) (.ref fI) = some (.type "function") := by kernel_rfl) : W w A (call (.ref C) args) Q s := by
  have X := B.x H
  have H1 := new_obj (p := fun o => ∃ n, o = dictOf [] n) (o := emptyDict) H ⟨0, rfl⟩ rfl s.toks
  have H2 := new_obj (p := (· = instObj C s.heap.objs.size)) (o := instObj C s.heap.objs.size) H1 rfl rfl s.toks
  obtain ⟨hh, gg, d, t, os⟩ := s
  refine wpAny_call (make_core (init := .ref fI) (makes_of X hm) (looks_findIn X hi) (fun self => bind_fn X self hf) (.inl rfl) ?_)
  have h' := h _ _ _ _ (hA.tcall C args) H2
  rw [Heap.size_push] at h'
  refine codeAny_mono h' fun r s' q => ?_
  rcases r with e | (v | _ | _ | _) <;> exact q
/-- the same of an own class below list -/
theorem makeL_ {k : Nat} {fI : Addr} {a : Value} {Q : Value → Shared → Prop} (hA : Ok (k + 1) A) (B : Base w g) (H : Hs g z M s)
    (h : ∀ x dx s₁ A', Ok k A' → Hs g z (qR x (.ref C) (some dx) [] :: eR dx [] :: M) s₁ → codeAny (model pr w) A' (.call (.ref fI) ⟨[.ref x, a], []⟩) (wants (fun v s' => v = .none ∧ Q (.ref x) s') fun _ _ => False) s₁)
    (hm : makesL w C = true := by kernel_rfl) (hi : findIn (Kf w) (.ref C) "__init__" = some (some (.ref fI)) := by kernel_rfl) (hf : typeIn (Kf w) (.ref fI) = some (.type "function") := by kernel_rfl) : W w A (call (.ref C) [a]) Q s := by
  have X := B.x H
  have H1 := new_obj (p := fun o => ∃ n, o = dictOf [] n) (o := emptyDict) H ⟨0, rfl⟩ rfl s.toks
  have H2 := new_obj (p := fun o => ∃ n, o = ⟨.ref C, some s.heap.objs.size, .seq ([] : List Value).toArray n, #[]⟩) (o := instObjL C s.heap.objs.size) H1 ⟨0, rfl⟩ rfl s.toks
  obtain ⟨h0, g0, d, t, os⟩ := s
  have Y := makesL_of (M := model pr w) X hm
  have Y' := Y
  have hi' := looks_findIn (M := model pr w) X hi
  have hb := fun self => bind_fn (M := model pr w) X self hf
  obtain ⟨⟨oc, od, cd, sl, hC, e1, e2, e4⟩, made, base, self, top, call, typ⟩ := Y
  refine wpAny_call (codeAny_of_tree ?_)
  show wpAny _ _ (callAny (.ref C) _) _ _ _
  refine nd_load hC ?_
  show wpAny _ _ (callAny.viaDunder (.ref C) _) _ _ _
  unfold callAny.viaDunder
  refine wpAny_bind (call.at ?_)
  dsimp only
  rw [tc_bind]
  refine wpAny_bind (wpAny_pure (wpAny_bind (wpAny_pure ?_)))
  refine wpAny_pure (a := Fin.again (.call (.builtin "type.__call__") ⟨[.ref C, a], []⟩)) (And.intro rfl ?_)
  refine codeAny_call_builtin_at (Code.quiet_builtin _ (by decide +kernel)) entry_typeCall (check_slot tc_kind tc_split typ (tc_args _ _ _) ?_)
  unfold Builtin.«type.__call__»
  have hm : Looks (model pr w) h0 (mroOf (.ref C)) cd.mro := ((Looks.ld (part := none) hC).andThen .now).andThen .now
  repeat (first | simp only [e4, Bool.false_eq_true, if_false] | with_reducible refine wpAny_call ?_ | lk)
  refine new_L Y' ?_
  have k : ∀ b o, h0.get? b = some o → ((h0.push emptyDict).push (instObjL C h0.objs.size)).get? b = some o := fun b o e => Heap.get?_push_of_some _ (Heap.get?_push_of_some _ e)
  have hx : ((h0.push emptyDict).push (instObjL C h0.objs.size)).get? (h0.objs.size + 1) = some (instObjL C h0.objs.size) := by
    have := Heap.get?_push_size (h0.push emptyDict) (o := instObjL C h0.objs.size) rfl
    rwa [Heap.size_push] at this
  have t1 : Looks (model pr w) ((h0.push emptyDict).push (instObjL C h0.objs.size)) (typeOf (.ref (h0.objs.size + 1))) (.ref C) := (Looks.ld hx).andThen .now
  have s1 := self.keeps k
  have i1 := hi'.keeps k
  have b1 := (hb (.ref (h0.objs.size + 1))).keeps k
  unfold isInstance callSpecial? specialOf
  have h' := h _ _ _ _ (hA.tcall C [a]) H2
  rw [Heap.size_push] at h'
  repeat (first | with_reducible refine wpAny_call ?_ | lk)
  refine codeAny_mono h' fun r s' z => ?_
  rcases r with e | (v | _ | _ | _) <;> first | exact z.elim | skip
  obtain ⟨rfl, z⟩ := z
  exact wpAny_pure (wpAny_pure z)
end
end
section
section
variable {w : World} {A : Around} {g : Heap} {z s s' : Shared} {M M' R : List Res} {dd hl sl dm x C dx : Addr} {xs hs ss bs vs : List Value} {es : List DictEntry} {v : Value} {name : Str} {ox : Obj}
theorem list_attr {pl : Sem Bool} {Q : Value × List Value → Shared → Prop} (X : (Kf w).In s.heap) (q : Q (.builtin "list.__init__", []) { s with toks := s.toks + 1 }) : W w A (getMethod (.type "list") "__init__" pl) Q s := by
  have ty : Looks (model pr w) s.heap (typeOf (.type "list")) (.type "type") := Looks.of_pure rfl
  have ga := looks_findIn (M := model pr w) X (show findIn (Kf w) (.type "type") "__getattribute__" = some (some (.builtin "type.__getattribute__")) by kernel_rfl)
  have at_ : ∀ b, W w A (getAttr (.type "list") "__init__" b) (fun v s' => Q (v, []) s') s := fun b => by
    refine cls_open (mc := .type "type") (r := .val (.builtin "list.__init__")) X (Looks.of_pure rfl) ty (by kernel_rfl) (looks_hook X (r := none) (by kernel_rfl)) (by kernel_rfl) (by kernel_rfl) ?_
    refine wpAny_pure ?_
    exact handed_on (by kernel_rfl) q
  unfold getMethod specialOf
  refine wpAny_bind (wpAny_bind (ty.here (ga.here ?_)))
  dsimp only
  rw [if_pos canon_tga]
  exact wpAny_bind (wpAny_mono (at_ _) (fun v s' h => wpAny_pure h) fun _ _ f => f)
theorem list_ {elts : List Expr} {env : Env} {pos : Pos} {Q : Value → Shared → Prop}
    (h : W w A (spliced (backTo pos (starEach elts env))) (fun vs s₁ => ∃ g z M, Hs g z M s₁ ∧ vs.length ≤ sizeLine ∧ ∀ a s', Hs g z (lR a vs :: M) s' → Q (.ref a) s') s) : W w A (eval (.List elts pos) env) Q s := by
  refine wpAny_List (wpAny_mono h (fun vs s₁ h => ?_) fun _ _ f => f)
  obtain ⟨g, z, M, H, hsz, q⟩ := h
  exact ⟨hsz, q _ _ (new_obj H ⟨0, rfl⟩ rfl s₁.toks)⟩
theorem tuple_ {elts : List Expr} {env : Env} {k : Nat} {pos : Pos} {Q : Value → Shared → Prop}
    (h : W w A (spliced (backTo pos (starEach elts env))) (fun vs s₁ => ∃ g z M, Hs g z M s₁ ∧ vs.length ≤ sizeLine ∧ ∀ a s', Hs g z (tR a vs :: M) s' → Q (.ref a) s') s) : W w A (eval (.Tuple elts k pos) env) Q s := by
  refine wpAny_Tuple (wpAny_mono h (fun vs s₁ h => ?_) fun _ _ f => f)
  obtain ⟨g, z, M, H, hsz, q⟩ := h
  exact ⟨hsz, q _ _ (new_obj H ⟨0, rfl⟩ rfl s₁.toks)⟩
theorem fn_dinit {k : Nat} {b : Addr} {Q : Value → Shared → Prop} (hA : Ok (k + 5) A) (B : Base w g) (H : Hs g z M s) (pk : Pick M [qR x (.ref 356) (some dx) [], eR dx [], lR b vs] R) (h1 : vs.length ≤ 1000)
    (q : ∀ hl sl s', Hs g z (domR x dx hl sl vs [] [] :: lR b vs :: R) s' → Q .none s') : codeAny (model pr w) A (.call (.ref 325) ⟨[.ref x, .ref b], []⟩) (wants Q fun _ _ => False) s := by
  have hb : BindsTo s (fdOf w 325) ⟨[.ref x, .ref b], []⟩ [("self", .ref x), ("values", .ref b)] := BindsTo.of_eq (by kernel_rfl)
  have hsl : sizeLine = 2 ^ 24 := rfl
  have H : Hs g z (qR x (.ref 356) (some dx) [] :: eR dx [] :: lR b vs :: R) s := H.pick pk
  refine code_fn (k := k + 4) (l := [("self", some (.ref x)), ("values", some (.ref b))]) hA B H hb ?_
  intro L s' H hA'
  with_unfolding_all refine wpAny_execs_cons ?_
  refine wpAny_Expr ?_ (by kernel_rfl) (by kernel_rfl)
  refine callM ?_
  refine nmB (v := .type "list") B H ?_
  refine list_attr (B.x H) ?_
  have H := H.tok (s'.toks + 1)
  refine Calls.callWith_builtin rfl ?_
  refine Calls.evalArgs_plain (Calls.spliced_cons ?_)
  refine nmL (by assumption) (by walk_at "m_take") (by walk_at "m_mem") ?_
  refine Calls.spliced_cons ?_
  refine nmL (by assumption) (by walk_at "m_take") (by walk_at "m_mem") ?_
  refine Calls.spliced_nil ?_
  have hne : x ≠ b := H.apart (x := qR x (.ref 356) (some dx) []) (y := lR b vs) (by walk_at "m_pick") rfl rfl
  obtain ⟨n1, e1⟩ := qR_at (a := x) H (by walk_at "m_take")
  obtain ⟨n2, e2⟩ := qR_at (a := b) H (by walk_at "m_take")
  refine own_call (B.x H) e1 rfl PySem.F.slot_list_init.plain PySem.F.entry_list_init (PySem.F.args_list_init_2 _ _) (toFin ?_)
  refine seq_init hne e1 e2 (by simp) (by omega) fun s1 hs1 => ?_
  have H := put_seq (a := x) (ws := []) H (by walk_at "m_take") (fun _ => #[]) rfl (s'.toks + 1)
  have H := put_seq (a := x) (ws := vs) H (by walk_at "m_take") (fun xs => xs ++ vs.toArray) (by simp) (s'.toks + 1)
  subst hs1
  show W _ _ _ _ _
  refine wpAny_execs_cons ?_
  refine plainObj_wpAny_Assign_Attribute ?_ (by kernel_rfl)
  refine list_ (Calls.spliced_nil ⟨g, z, _, H, by simp, fun hl s2 H => ?_⟩)
  refine nmL (by assumption) (by walk_at "m_take") (by walk_at "m_mem") ?_
  obtain ⟨n3, e3⟩ := qR_at (a := x) H (by walk_at "m_take")
  refine setA (mro := [.ref 356, .type "list", .type "object"]) B H e3 rfl rfl rfl (es := []) (by walk_at "m_take") (by kernel_rfl) (by intros; simp [putL]) fun h1 t1 s3 H => ?_
  show W _ _ _ _ _
  refine wpAny_execs_cons ?_
  refine plainObj_wpAny_Assign_Attribute ?_ (by kernel_rfl)
  refine list_ (Calls.spliced_nil ⟨g, z, _, H, by simp, fun sl s4 H => ?_⟩)
  refine nmL (by assumption) (by walk_at "m_take") (by walk_at "m_mem") ?_
  obtain ⟨n5, e5⟩ := qR_at (a := x) H (by walk_at "m_take")
  refine setA (mro := [.ref 356, .type "list", .type "object"]) (name := "_states") B H e5 rfl rfl rfl (es := putL (Str.ofString "_hidden") h1 (.str (Str.ofString "_hidden") t1) (.ref hl) []) (by walk_at "m_take") (by kernel_rfl) (by intros; exact Nat.le_trans (Nat.le_of_eq (m := 2) (by kernel_rfl)) (by omega)) fun h2 t2 s5 H => ?_
  show W _ _ _ _ _
  refine wpAny_execs_nil ?_
  have H := H.imp (r' := ddR dx hl sl) (fun _ f => f) (fun ⟨o, e, n, eo⟩ => ⟨o, e, h1, h2, t1, t2, n, eo⟩)
  exact q hl sl _ (dom_shut (H.sub (by walk_at "m_sub")))
/-- Domain(list) -/
theorem mk_dom {k : Nat} {b : Addr} {Q : Value → Shared → Prop} (hA : Ok (k + 6) A) (B : Base w g) (H : Hs g z M s) (t : Take (lR b vs) M R) (h1 : vs.length ≤ 1000)
    (q : ∀ d dd hl sl s', Hs g z (domR d dd hl sl vs [] [] :: lR b vs :: R) s' → Q (.ref d) s') : W w A (call (.ref 356) [.ref b]) Q s := by
  refine makeL_ (k := k + 5) (fI := 325) hA B (H.take t) fun x dx s1 A' hA' H => ?_
  exact fn_dinit hA' B H (by walk_at "m_pick") h1 fun hl sl s2 H => ⟨rfl, q x dx hl sl s2 H⟩
end
end
section
section
variable {w : World} {A : Around} {g : Heap} {z s s' : Shared} {M M' R : List Res}
theorem Hs.lose {x : Res} {h' : Heap} {t : Nat} (H : Hs g z (x :: M) s) (hk : ∀ b o, ¬ x.fp b → s.heap.get? b = some o → h'.get? b = some o) : Hs g z M { s with heap := h', toks := t } := by
  have hd := List.pairwise_cons.mp H.dj
  refine ⟨fun b o e => hk b o (fun f => ?_) (H.base b o e), H.gens, H.drawn, H.os, fun q hq => ?_, fun q hq => H.off q (List.mem_cons_of_mem _ hq), hd.2⟩
  · rw [H.off x List.mem_cons_self b f] at e; cases e
  · exact q.st _ _ (H.ok q (List.mem_cons_of_mem _ hq)) fun b o f e => hk b o (fun f' => hd.1 q hq b f' f) e
/-- an iterator: its piece, turn by turn, and what it reads -/
structure Iter (w : World) (A : Around) (it : Value) (n : Nat) (P : Nat → Value → Prop) (I : Nat → Res) (N : Heap → Prop) : Prop where
  next : ∀ (g : Heap) (z : Shared) (i : Nat) (M : List Res) (s : Shared) (Q : Option Value → Shared → Prop), i < n → N s.heap → Hs g z (I i :: M) s → (∀ v s', P i v → Hs g z (I (i + 1) :: M) s' → Q (some v) s') → W w A (pyNext it) Q s
  done : ∀ (g : Heap) (z : Shared) (M : List Res) (s : Shared) (Q : Option Value → Shared → Prop), N s.heap → Hs g z (I n :: M) s → (∀ s', Hs g z M s' → Q none s') → W w A (pyNext it) Q s
  self : ∀ (g : Heap) (z : Shared) (i : Nat) (M : List Res) (s : Shared) (Q : Value → Shared → Prop), Hs g z (I i :: M) s → Q it s → W w A (pyIter it) Q s
  go : ∀ (g : Heap) (z : Shared) (i : Nat) (M : List Res) (s : Shared) (t : Expr) (v : Value) (Q : Unit → Shared → Prop), P i v → Hs g z (I (i + 1) :: M) s → (∀ s', Hs g z (I (i + 1) :: M) s' → Q () s') → W w A (letOwnedTupleGo t it v) Q s
def liR (I ax : Addr) (i : Nat) : Res := cR I fun o => o.cls = .type "list_iterator" ∧ o.data = .fields #[.ref ax, .int i 0]
def hasSeq (ax : Addr) (vs : List Value) (h : Heap) : Prop := ∃ c d n, h.get? ax = some ⟨c, d, .seq vs.toArray n, #[]⟩
theorem has_seq {a : Addr} {c : Value} {d : Option Addr} {vs : List Value} (H : Hs g z M s) (t : Take (qR a c d vs) M M') : hasSeq a vs s.heap := by
  obtain ⟨n, e⟩ := qR_at H t; exact ⟨_, _, n, e⟩
theorem iter_list (hh : A.handled = none) (I ax : Addr) (vs : List Value) : Iter w A (.ref I) vs.length (fun i v => vs[i]? = some v) (liR I ax) (hasSeq ax vs) where
  next := by
    rintro g z i M s Q hi ⟨c, d, n, e⟩ H q
    obtain ⟨o, ho, hc, hd⟩ := H.get Take.head
    have hv : vs[i]? = some vs[i] := List.getElem?_eq_getElem hi
    refine any_next_item ⟨o, ho, hc, hd⟩ e hv fun h' hit hs => q _ _ hv ?_
    obtain ⟨o', ho', hc', hd'⟩ := hit
    exact H.put (r := liR I ax (i + 1)) (fun b f => f) (fun b o nf e => (hs.2 b nf).trans e) ⟨o', ho', hc', hd'⟩
  done := by
    rintro g z M s Q ⟨c, d, n, e⟩ H q
    obtain ⟨o, ho, hc, hd⟩ := H.get Take.head
    have hit : s.heap.IsListIter I ax vs.length := ⟨o, ho, hc, hd⟩
    have hx : vs.toArray[vs.length]? = none := by simp
    unfold pyNext
    refine wpAny_bind (wpAny_attempt (wpAny_callSpecial?_slot (name := Str.ofString "__next__") hit.typeIs slot_listiter_next
      (wpAny_call_entry slot_listiter_next hit.typeIs entry_listiter_next ?_ (args_listiter_next _))))
    show wpAny _ _ (field (.ref I) 0 >>= _) _ _ s
    refine wpAny_bind (wpAny_field ho hd (x := .ref ax) rfl ?_)
    show wpAny _ _ (if (Value.ref ax == Value.none) = true then _ else _) _ _ s
    rw [if_neg (show ¬ ((Value.ref ax == Value.none) = true) from Bool.false_ne_true)]
    show wpAny _ _ (field (.ref I) 1 >>= _) _ _ s
    refine wpAny_bind (wpAny_field ho hd (x := .int vs.length 0) rfl ?_)
    show wpAny _ _ (seqItems? (.ref ax) >>= _) _ _ s
    refine wpAny_bind (wpAny_seqItems e rfl ?_)
    simp only [Int.toNat_natCast, hx]
    refine wpAny_bind (wpAny_rule (wpAny_bind (wpAny_setField ho hd (by simp) ?_)))
    show wpAny _ _ (newExc (.type "StopIteration") [] >>= _) _ _ _
    refine wpAny_bind ?_
    simp only [newExc, newTuple]
    refine wpAny_bind (wpAny_newObj_type ?_ (by size_fits))
    refine wpAny_bind (m := firstArgMember _ _) (wpAny_of_eq (a := Value.none) (by first | rfl | (simp only [firstArgMember]; rfl)) ?_)
    refine wpAny_newObj_type ?_ (by size_fits)
    simp only [raiseNew]
    refine wpAny_bind (wpAny_handled ?_)
    rw [show A.in1.handled = none from hh]
    refine wpAny_bind (wpAny_pure (wpAny_throw ?_))
    refine wpAny_bind (wpAny_isInstance (T := "StopIteration") (b := true) ⟨_, Heap.get?_push_size _ rfl, rfl⟩ isSubtype_stop ?_)
    refine wpAny_pure (q _ (H.lose fun b o nf e => ?_))
    exact (((Heap.SameBut.update ..).extBut.push _).push _) b o nf e
  self := by
    rintro g z i M s Q H q
    obtain ⟨o, ho, hc, hd⟩ := H.get Take.head
    exact wpAny_pyIter_listiter ⟨o, ho, hc, hd⟩ q
  go := by
    rintro g z i M s t v Q hv H q
    obtain ⟨o, ho, hc, hd⟩ := H.get Take.head
    have e0 : ∀ v : Value, (["enumerate", "zip", "dict_itemiterator", "dict_reverseitemiterator", "odict_iterator", "itertools.zip_longest", "itertools.pairwise"].contains "list_iterator" && v == v) = false := fun v => by
      rw [show (["enumerate", "zip", "dict_itemiterator", "dict_reverseitemiterator", "odict_iterator", "itertools.zip_longest", "itertools.pairwise"].contains "list_iterator") = false from by decide, Bool.false_and]
    have f0 : (["enumerate", "zip", "dict_itemiterator", "dict_reverseitemiterator", "odict_iterator", "itertools.zip_longest", "itertools.pairwise"].contains "list_iterator") = false := by decide
    unfold letOwnedTupleGo
    split
    · cases v with
      | ref a =>
        refine wpAny_bind (wpAny_load ho ?_)
        rw [hc, hd]
        dsimp only
        rw [f0, Bool.false_and, if_neg (by decide)]
        exact wpAny_pure (q _ H)
      | _ => exact wpAny_pure (q _ H)
    · cases v with
      | ref a =>
        refine wpAny_bind (wpAny_load ho ?_)
        rw [hc, hd]
        dsimp only
        rw [f0, Bool.false_and, if_neg (by decide)]
        exact wpAny_pure (q _ H)
      | _ => exact wpAny_pure (q _ H)
    · exact wpAny_pure (q _ H)
/-- a for loop -/
theorem for_ {target iter : Expr} {body orelse : List Stmt} {pos : Pos} {env : Env} {Q : Flow → Shared → Prop}
    (h : W w A (eval iter env) (fun x s₁ => W w A (pyIter x) (fun it s₂ => ∃ g z n P I N, ∃ (J : Nat → List Res → Prop) (M₀ : List Res), Iter w A it n P I N ∧ J 0 M₀ ∧ Hs g z (I 0 :: M₀) s₂ ∧ (∀ i M s, J i M → Hs g z M s → N s.heap) ∧
      (∀ i M v s, i < n → J i M → P i v → Hs g z (I (i + 1) :: M) s → W w A (assign target env v) (fun _ s₁ => W w A (execs body env) (fun f s₂ => match f with
        | .next | .cont => ∃ M', J (i + 1) M' ∧ Hs g z (I (i + 1) :: M') s₂
        | .brk => Q .next s₂
        | .ret v => Q (.ret v) s₂) s₁) s) ∧
      (∀ M s, J n M → Hs g z M s → W w A (execs orelse env) Q s)) s₁) s)
    (hs : ∀ x, foldedSetIterable iter env x = pure x := by intro _; rfl) : W w A (exec (.For target iter body orelse pos) env) Q s := by
  refine wpAny_For (wpAny_mono h (fun x s₁ h₁ => wpAny_mono h₁ (fun it s₂ h₂ => ?_) fun _ _ f => f) fun _ _ f => f) hs
  obtain ⟨g, z, n, P, I, N, J, M₀, It, j0, H, hN, turn, done⟩ := h₂
  refine codeAny_forLoop_any (fun m s => ∃ i M, m = n - i ∧ i ≤ n ∧ J i M ∧ Hs g z (I i :: M) s) ?_ n ⟨0, M₀, rfl, Nat.zero_le _, j0, H⟩
  rintro m s ⟨i, M, rfl, hi, hJ, H⟩
  have hNs := hN i M s hJ H.drop
  rcases Nat.lt_or_eq_of_le hi with hlt | rfl
  · refine W.any (It.next g z i M s _ hlt hNs H fun v s' hv H => ?_)
    refine W.any (It.go g z i M s' target v _ hv H fun s' H => ?_)
    refine W.any (wpAny_mono (turn i M v s' hlt hJ hv H) (fun _ s₁ h₁ => ?_) fun _ _ f => f)
    refine W.any (wpAny_mono h₁ (fun f s₂ h₂ => ?_) fun _ _ f => f)
    cases f with
    | next => obtain ⟨M', j', H'⟩ := h₂; exact ⟨n - (i + 1), by omega, i + 1, M', rfl, hlt, j', H'⟩
    | cont => obtain ⟨M', j', H'⟩ := h₂; exact ⟨n - (i + 1), by omega, i + 1, M', rfl, hlt, j', H'⟩
    | brk => exact h₂
    | ret v => exact h₂
  · refine W.any (It.done g z M s _ hNs H fun s' H => ?_)
    exact W.any (done M s' hJ H)
end
end
section
section
variable {w : World} {A : Around} {g : Heap} {z s s' : Shared} {M M' R : List Res} {a : Addr} {kvs : List (Int × Value)} {ep : Nat} {k : Int} {t : Tok} {v : Value}
abbrev IK (w : World) := intKind pr w
/-- a dict of ints' keys, pair by pair -/
def dR (w : World) (a : Addr) (kvs : List (Int × Value)) (ep : Nat) : Res := cR a fun o => (a == sysModules) = false ∧ ∃ es, o.ExactDict ∧ o.data = .dict es ep ∧ KeysOf (IK w) es ∧ Pairs (IK w) es.toList kvs ∧ (kvs.map (·.1)).Nodup
theorem dR_at (H : Hs g z M s) (tk : Take (dR w a kvs ep) M M') : s.heap.DictAt (IK w) a kvs ep ∧ (a == sysModules) = false := by
  obtain ⟨o, e, hs, es, r⟩ := H.get tk; exact ⟨⟨o, es, e, r⟩, hs⟩
theorem dR_put {h' : Heap} {kvs' : List (Int × Value)} {n : Nat} (H : Hs g z M s) (tk : Take (dR w a kvs ep) M M') (hd : h'.DictOf (IK w) a kvs') (hs : Heap.SameBut a s.heap h') : ∃ ep', Hs g z (dR w a kvs' ep' :: M') { s with heap := h', toks := n } := by
  obtain ⟨_, hsm⟩ := dR_at H tk
  obtain ⟨o, es, ep', ho, r⟩ := hd
  exact ⟨ep', (H.take tk).put (fun b f => f) (fun b o nf e => (hs.2 b nf).trans e) ⟨o, ho, hsm, es, r⟩⟩
theorem d_in {Q : Value → Shared → Prop} (H : Hs g z M s) (tk : Take (dR w a kvs ep) M M') (q : ∀ s', Hs g z M s' → Q (.bool (valueAt kvs k).isSome) s') : W w A (compareOp .In (.int k t) (.ref a)) Q s := by
  obtain ⟨hd, hs⟩ := dR_at H tk
  exact wpAny_in_of (intKind_is pr w k t) hs hd.dictOf.mapOf (q _ (H.tok _))
theorem d_notin {Q : Value → Shared → Prop} (H : Hs g z M s) (tk : Take (dR w a kvs ep) M M') (q : ∀ s', Hs g z M s' → Q (.bool (!(valueAt kvs k).isSome)) s') : W w A (compareOp .NotIn (.int k t) (.ref a)) Q s := by
  obtain ⟨hd, hs⟩ := dR_at H tk
  exact wpAny_notIn_of (intKind_is pr w k t) hs hd.dictOf.mapOf (q _ (H.tok _))
theorem d_get {Q : Value → Shared → Prop} (H : Hs g z M s) (tk : Take (dR w a kvs ep) M M') (hv : valueAt kvs k = some v) (q : ∀ s', Hs g z M s' → Q v s') : W w A (getItem (.ref a) (.int k t)) Q s := by
  obtain ⟨hd, hs⟩ := dR_at H tk
  exact wpAny_getItem_of (intKind_is pr w k t) hd.dictOf.mapOf hv (q _ (H.tok _))
theorem d_gip {Q : Bool → Shared → Prop} (H : Hs g z M s) (tk : Take (dR w a kvs ep) M M') (q : Q false s) : W w A (getitemInPython (.ref a)) Q s := by
  obtain ⟨hd, hs⟩ := dR_at H tk
  unfold getitemInPython
  exact wpAny_bind (wpAny_specialOf hd.dictOf.typeIs slot_dict_getitem.lookup (wpAny_pure q))
theorem d_set {Q : Unit → Shared → Prop} (H : Hs g z M s) (tk : Take (dR w a kvs ep) M M') (hsz : kvs.length ≤ sizeLine) (q : ∀ ep' s', Hs g z (dR w a (stored kvs k v) ep' :: M') s' → Q () s') : W w A (setItem (.ref a) (.int k t) v) Q s := by
  obtain ⟨hd, hs⟩ := dR_at H tk
  refine wpAny_setItem_pairs (intKind_is pr w k t) hd.dictOf (fun h' hd' hs' => ?_) hsz
  obtain ⟨ep', H'⟩ := dR_put (n := s.toks + 1) H tk hd' hs'
  exact q ep' _ H'
theorem d_del {Q : Unit → Shared → Prop} (H : Hs g z M s) (tk : Take (dR w a kvs ep) M M') (hsz : kvs.length ≤ sizeLine) (hin : (valueAt kvs k).isSome = true) (q : ∀ ep' s', Hs g z (dR w a (without kvs k) ep' :: M') s' → Q () s') : W w A (delItem (.ref a) (.int k t)) Q s := by
  obtain ⟨hd, hs⟩ := dR_at H tk
  refine wpAny_delItem_slot hd.dictOf.typeIs (by decide) PySem.F.slot_dict_delitem ?_
  refine call_meetsIn PySem.F.slot_dict_delitem hd.dictOf.typeIs PySem.F.entry_dict_delitem (PySem.F.args_dict_delitem_2 _ _) (meets_dict_delitem_pairs (IK w) a (intKind_is pr w k t)) ⟨kvs, hd.dictOf, hsz, hin, fun h' hd' hs' => ?_⟩
  obtain ⟨ep', H'⟩ := dR_put (n := s.toks + 1) H tk hd' hs'
  exact q ep' _ H'
theorem size_ne (B : Base w g) (H : Hs g z M s) : (s.heap.objs.size == sysModules) = false := by
  obtain ⟨mg, h⟩ := B.gl
  have := (h.keeps H.base).lt
  have h3 : mainGlobals = 3 := rfl
  have h1 : sysModules = 1 := rfl
  rw [beq_eq_false_iff_ne, h1]; intro e; rw [h3, e] at this; exact absurd this (by decide)
theorem d_new {env : Env} {pos : Pos} {Q : Value → Shared → Prop} (B : Base w g) (H : Hs g z M s) (q : ∀ a s', Hs g z (dR w a [] 0 :: M) s' → Q (.ref a) s') : W w A (eval (.Dict [] [] pos) env) Q s := by
  rw [eval_Dict_empty]
  refine wpAny_bind (wpAny_standAt ?_)
  refine wpAny_newObj_type (q _ _ (new_obj H ⟨size_ne B H, #[], ⟨rfl, rfl, rfl⟩, rfl, fun e he => by simp at he, Pairs.nil, List.nodup_nil⟩ rfl s.toks))
theorem d_copy {pos : Pos} {Q : Value → Shared → Prop} (B : Base w g) (H : Hs g z M s) (tk : Take (dR w a kvs ep) M M') (hsz : kvs.length ≤ sizeLine) (q : ∀ b ep' s', Hs g z (dR w b kvs ep' :: M) s' → Q (.ref b) s') : W w A (callWith pos (.builtin "dict.copy") [.ref a] [] []) Q s := by
  obtain ⟨hd, hs⟩ := dR_at H tk
  refine Calls.callWith_builtin rfl (PyProof.Rows.evalArgs_none ?_)
  refine call_meetsIn PySem.F.slot_dict_copy hd.dictOf.typeIs PySem.F.entry_dict_copy (PySem.F.args_dict_copy_1 _) (meets_dict_copy (IK w) a hs) ⟨kvs, hd.dictOf, hsz, fun h' hn _ hk => ?_⟩
  obtain ⟨o, es, ep', ho, r⟩ := hn
  exact q _ ep' _ (H.new ⟨h', _, rfl, hk⟩ (fun b f => f ▸ fresh_size s) ⟨o, ho, size_ne B H, es, r⟩)
theorem d_meth {name : Str} {id : String} {pl : Sem Bool} {Q : Value × List Value → Shared → Prop} (H : Hs g z M s) (tk : Take (dR w a kvs ep) M M') (slot : Slot "dict" name id) (hty : typeOf (.builtin id) = pure (.type "method_descriptor"))
    (q : Q (.builtin id, [.ref a]) s) : W w A (getMethod (.ref a) name pl) Q s := by
  obtain ⟨hd, hs⟩ := dR_at H tk
  exact getMethod_builtin hd.dictOf.typeIs PySem.F.plainAttrs_dict slot hty hd.dictOf.mapOf.noDict q
theorem d_truthy {Q : Bool → Shared → Prop} (H : Hs g z M s) (tk : Take (dR w a kvs ep) M M') (hsz : kvs.length ≤ sizeLine) (q : ∀ s', Hs g z M s' → Q (!kvs.isEmpty) s') : W w A (truthy (.ref a)) Q s := by
  obtain ⟨hd, hs⟩ := dR_at H tk
  have hl : sizeLine = 2 ^ 24 := rfl
  exact wpAny_truthy_dict hs hd.dictOf (by omega) (q _ (H.tok _))
/-- the iterator of a dict -/
def kiR (I d : Addr) (n ep i : Nat) : Res := cR I fun o => o.cls = .type "dict_keyiterator" ∧ o.data = .fields #[.ref d, .int i 0, .int n 0, .int ep 0]
theorem iter_dict (hh : A.handled = none) (I : Addr) : Iter w A (.ref I) kvs.length (fun i v => ∃ k x t, kvs[i]? = some (k, x) ∧ v = .int k t) (kiR I a kvs.length ep) (fun h => h.DictAt (IK w) a kvs ep) where
  next := by
    rintro g z i M s Q hi hN H q
    obtain ⟨o, ho, hc, hd⟩ := H.get Take.head
    have hv : kvs[i]? = some (kvs[i].1, kvs[i].2) := List.getElem?_eq_getElem hi
    refine wpAny_pyNext_dict_item ⟨o, ho, hc, hd⟩ hN hv fun key h' hkey hit hs => ?_
    obtain ⟨t, rfl⟩ := Value.isInt_shape hkey
    obtain ⟨o', ho', hc', hd'⟩ := hit
    exact q _ _ ⟨_, _, t, hv, rfl⟩ (H.put (r := kiR I a kvs.length ep (i + 1)) (fun b f => f) (fun b o nf e => (hs.2 b nf).trans e) ⟨o', ho', hc', hd'⟩)
  done := by
    rintro g z M s Q hN H q
    obtain ⟨o, ho, hc, hd⟩ := H.get Take.head
    exact wpAny_pyNext_dict_end hh ⟨o, ho, hc, hd⟩ hN (by simp) fun h' hs => q _ (H.lose fun b o nf e => hs b o nf e)
  self := by
    rintro g z i M s Q H q
    obtain ⟨o, ho, hc, hd⟩ := H.get Take.head
    exact wpAny_pyIter_keyiter ⟨o, ho, hc, hd⟩ q
  go := by
    rintro g z i M s t v Q ⟨k, x, u, _, rfl⟩ H q
    unfold letOwnedTupleGo
    split <;> exact wpAny_pure (q _ H)
theorem d_iter {Q : Value → Shared → Prop} (H : Hs g z M s) (tk : Take (dR w a kvs ep) M M') (q : ∀ I s', Hs g z (kiR I a kvs.length ep 0 :: M) s' → Q (.ref I) s') : W w A (pyIter (.ref a)) Q s := by
  obtain ⟨hd, hs⟩ := dR_at H tk
  exact wpAny_pyIter_dict hs hd (q _ _ (new_obj H ⟨rfl, rfl⟩ rfl s.toks))
theorem l_iter {ax : Addr} {vs : List Value} {Q : Value → Shared → Prop} (H : Hs g z M s) (tk : Take (lR ax vs) M M') (q : ∀ I s', Hs g z (liR I ax 0 :: M) s' → Q (.ref I) s') : W w A (pyIter (.ref ax)) Q s :=
  wpAny_pyIter_list (isL H tk) (q _ _ (new_obj H ⟨rfl, rfl⟩ rfl s.toks))
theorem own_iter_ {x : Addr} {d : Option Addr} {vs : List Value} {Q : Value → Shared → Prop} (B : Base w g) (H : Hs g z M s) (tk : Take (qR x (.ref 356) d vs) M M') (q : ∀ I s', Hs g z (liR I x 0 :: M) s' → Q (.ref I) s') : W w A (pyIter (.ref x)) Q s := by
  obtain ⟨n, e⟩ := qR_at H tk
  exact own_iter (B.x H) e (q _ _ (new_obj H ⟨rfl, rfl⟩ rfl s.toks))
end
end
section
def closOf (names : List (Str × NameKind)) (cells : List (Str × Addr)) : List (Str × Addr) :=
  (names.filterMap fun x => if x.2 == .free then (cells.lookup x.1).map (x.1, ·) else none).reverse
def scopeOk (scope : Scope) (xs : List Str) : Bool := scope.kind == .function && scope.names.all (fun y => y.2 != .cell) && scope.names.all (fun y => y.2 != .local || scope.names.lookup y.1 == some .local) && xs.all (fun x => scope.names.lookup x == some .local) && nodupB xs
section
variable {w : World} {A : Around} {g : Heap} {z s s' : Shared} {M M' R : List Res} {env : Env}
/-- what a comprehension over an iterator computes -/
def CompBody (w : World) (A : Around) (g : Heap) (z : Shared) (target elt : Expr) (ifs : List Expr) (scope : Scope) (env : Env) (xs : List Str) (n : Nat) (P : Nat → Value → Prop) (I : Nat → Res) (J : Nat → List Value → List Res → Prop) : Prop :=
  ∀ C D l i ys M v s, l.map (·.1) = xs → i < n → J i ys M → P i v → Hs g z (frR C [] l :: I (i + 1) :: lR D ys :: M) s →
    W w A (assign target (compEnvC scope (closOf scope.names env.cells) C env) v) (fun _ s₁ =>
      W w A (forIn ifs true fun c r => if r = true then do let ok ← isTrue c (compEnvC scope (closOf scope.names env.cells) C env) (eval c (compEnvC scope (closOf scope.names env.cells) C env)); pure (ForInStep.yield ok) else pure (ForInStep.yield r)) (fun ok s₂ =>
        if ok = true then W w A (eval elt (compEnvC scope (closOf scope.names env.cells) C env)) (fun y s₃ => ∃ l' M', l'.map (·.1) = xs ∧ J (i + 1) (ys ++ [y]) M' ∧ Hs g z (frR C [] l' :: I (i + 1) :: lR D ys :: M') s₃) s₂
        else ∃ l' M', l'.map (·.1) = xs ∧ J (i + 1) ys M' ∧ Hs g z (frR C [] l' :: I (i + 1) :: lR D ys :: M') s₂) s₁) s
theorem frR_but {C : Addr} {l : List (Str × Option Value)} {h' : Heap} {t : Nat} (H : Hs g z (frR C [] l :: M) s) (hs : Heap.SameBut C s.heap h') : Hs g z M { s with heap := h', toks := t } :=
  H.lose fun b o nf e => (hs.2 b fun q => nf (.inl q)).trans e
theorem comp_core {elt target iter : Expr} {ifs : List Expr} {scope : Scope} {pos : Pos} {it : Value} {xs : List Str} {n : Nat} {P : Nat → Value → Prop} {I : Nat → Res} {N : Heap → Prop} {J : Nat → List Value → List Res → Prop} {M₀ : List Res} {use : Option (Value → Sem Unit)} {Q : Value → Shared → Prop}
    (ok : scopeOk scope xs = true) (It : Iter w A it n P I N) (j0 : J 0 [] M₀) (H : Hs g z (I 0 :: M₀) s) (hN : ∀ i ys M s, J i ys M → Hs g z M s → N s.heap) (hsz : n ≤ 10000)
    (hlen : ∀ i ys M, J i ys M → ys.length ≤ i)
    (body : CompBody w A g z target elt ifs scope env xs n P I J)
    (fin : ∀ C D l ys M s, l.map (·.1) = xs → J n ys M → Hs g z (frR C [] l :: lR D ys :: M) s → compPost (model pr w) A (fun _ _ => False) use Q (.ref D) C (.ok .next) s) :
    W w A (newList []) (fun acc s₃ => W w A (newFunctionEnv scope env.globals (closOf scope.names env.cells) [] env.qual none .none (some env)) (fun cenv s₄ =>
      codeAny (model pr w) A (.compStart (.ListComp elt [⟨target, iter, ifs, 0⟩] scope pos) 0 it acc { cenv with scope := relabel scope env }) (compPost (model pr w) A (fun _ _ => False) use Q acc cenv.locals) s₄) s₃) s := by
  unfold scopeOk at ok
  simp only [Bool.and_eq_true, beq_iff_eq, List.all_eq_true, bne_iff_ne, ne_eq] at ok
  obtain ⟨⟨⟨⟨hkind, hcell⟩, hloc⟩, hxs⟩, hnd⟩ := ok
  refine wpAny_newObj_type (wpAny_newFunctionEnv hcell (by intro y hy; simp at hy) (fun h₁ hns₁ hsb₁ => ?_) hkind)
  have H1 : Hs g z (lR s.heap.objs.size [] :: I 0 :: M₀) { s with heap := s.heap.push { cls := .type "list", data := .seq ([] : List Value).toArray } } := new_obj H ⟨0, rfl⟩ rfl s.toks
  have hC0 := fresh_size { s with heap := s.heap.push { cls := .type "list", data := .seq ([] : List Value).toArray } }
  have kk : Keeps { s with heap := s.heap.push { cls := .type "list", data := .seq ([] : List Value).toArray } } { s with heap := h₁, toks := s.toks + ([] : List (Str × Value)).length } :=
    ⟨h₁, _, rfl, fun b o e => (hsb₁.2 b (by rintro rfl; exact absurd e (by rw [hC0]; exact fun q => nomatch q))).trans (Heap.get?_push_of_some _ e)⟩
  have H2 := H1.new (r := frR (s.heap.push { cls := .type "list", dict := none, data := .seq ([] : List Value).toArray }).objs.size [] (xs.map (·, none))) kk (by
      rintro b (rfl | ⟨x, _, e⟩)
      · exact hC0
      · cases e) ⟨⟨_, hns₁, fun p hp _ => by obtain ⟨x, _, rfl⟩ := List.mem_map.mp hp; rfl⟩, fun p _ c e => by simp at e, fun p _ q _ c e _ => by simp at e, by
        have e : (xs.map fun x => ((x, none) : Str × Option Value)).map (·.1) = xs := by rw [List.map_map]; exact List.map_id xs
        rw [e]; exact nodup_of hnd⟩
  generalize (s.heap.push { cls := .type "list", dict := none, data := .seq ([] : List Value).toArray }).objs.size = C at *
  generalize s.heap.objs.size = D at *
  have loop : ∀ s₃, Hs g z (frR C [] (xs.map (·, none)) :: lR D [] :: I 0 :: M₀) s₃ →
      codeAny (model pr w) A (.compLoop (.ListComp elt [⟨target, iter, ifs, 0⟩] scope pos) 0 it (.ref D) (compEnvC scope (closOf scope.names env.cells) C env)) (compPost (model pr w) A (fun _ _ => False) use Q (.ref D) C) s₃ := by
    intro s₃ H
    refine codeAny_loop rfl (fun m s => ∃ i l ys M, m = n - i ∧ i ≤ n ∧ l.map (·.1) = xs ∧ J i ys M ∧ Hs g z (frR C [] l :: I i :: lR D ys :: M) s) (fun m s hI => ?_) n
      ⟨0, xs.map (·, none), [], M₀, rfl, Nat.zero_le _, by rw [List.map_map]; exact List.map_id xs, j0, H.sub (by walk_at "m_sub")⟩
    obtain ⟨i, l, ys, M, rfl, hi, hl, hJ, H⟩ := hI
    show wpAny _ A ((compTurn (.ListComp elt [⟨target, iter, ifs, 0⟩] scope pos) 0 it (.ref D) (compEnvC scope (closOf scope.names env.cells) C env)).onRaise (fun x => do noteFrame x (compEnvC scope (closOf scope.names env.cells) C env); theTreesLotGoes x)) _ _ _
    refine wpAny_noted ?_
    rw [compTurn_list]
    have hNs := hN i ys M _ hJ (H.sub (by exact Sub.drop (Sub.drop (Sub.drop Sub.refl))))
    have H0 := H.sub (xs := I i :: frR C [] l :: lR D ys :: M) (by walk_at "m_sub")
    refine wpAny_bind (wpAny_standAt (wpAny_bind ?_))
    rcases Nat.lt_or_eq_of_le hi with hlt | rfl
    · refine W.any (It.next g z i _ _ _ hlt hNs H0 fun v s' hv H => ?_)
      refine wpAny_bind (W.any (It.go g z i _ s' target v _ hv H fun s' H => ?_))
      have H := H.sub (xs := frR C [] l :: I (i + 1) :: lR D ys :: M) (by walk_at "m_sub")
      refine wpAny_bind (W.any (wpAny_mono (body C D l i ys M v s' hl hlt hJ hv H) (fun _ s₁ h₁ => ?_) fun _ _ f => f))
      refine wpAny_bind (W.any (wpAny_mono h₁ (fun ok s₂ h₂ => ?_) fun _ _ f => f))
      cases ok with
      | false =>
        obtain ⟨l', M', e', j', H'⟩ := h₂
        exact wpAny_pure ⟨rfl, n - (i + 1), by omega, i + 1, l', ys, M', rfl, hlt, e', j', H'⟩
      | true =>
        refine wpAny_bind (wpAny_bind (W.any (wpAny_mono h₂ (fun y s₃ h₃ => ?_) fun _ _ f => f)))
        obtain ⟨l', M', e', j', H'⟩ := h₃
        obtain ⟨nn, e⟩ := qR_at (a := D) H' (by walk_at "m_take")
        have hys := hlen _ _ _ hJ
        have hsl : sizeLine = 2 ^ 24 := rfl
        refine wpAny_bind (W.any (wpAny_list_append_plain (items := ys.toArray) ⟨nn, e⟩ (fun h' hp hs' => ?_) (by simp; omega)))
        obtain ⟨nn', e2⟩ := hp
        have H3 := (H'.take (x := lR D ys) (by walk_at "m_take")).put (r := lR D (ys ++ [y])) (h' := h') (t := s₃.toks) (fun b f => f) (fun b o nf e => (hs'.2 b nf).trans e) ⟨_, e2, nn', by simp⟩
        exact wpAny_pure (wpAny_pure ⟨rfl, n - (i + 1), by omega, i + 1, l', ys ++ [y], M', rfl, hlt, e', j', H3.sub (by walk_at "m_sub")⟩)
    · refine W.any (It.done g z _ _ _ hNs H0 fun s' H => ?_)
      exact wpAny_pure (fin C D l ys M s' hl hJ H)
  exact codeAny_compStart_list (loop _ H2) (It.self g z 0 _ _ _ (H2.sub (xs := I 0 :: frR C [] (xs.map (·, none)) :: lR D [] :: M₀) (by walk_at "m_sub")) (loop _ H2)).any
/-- a list comprehension -/
theorem comp_ {elt target iter : Expr} {ifs : List Expr} {scope : Scope} {pos : Pos} {Q : Value → Shared → Prop} (xs : List Str)
    (h : W w A (eval iter env) (fun xv s₁ => W w A (pyIter xv) (fun it s₂ => ∃ g z n P I N, ∃ (J : Nat → List Value → List Res → Prop) (M₀ : List Res), Iter w A it n P I N ∧ J 0 [] M₀ ∧ Hs g z (I 0 :: M₀) s₂ ∧ n ≤ 10000 ∧
      (∀ i ys M s, J i ys M → Hs g z M s → N s.heap) ∧ (∀ i ys M, J i ys M → ys.length ≤ i) ∧ CompBody w A g z target elt ifs scope env xs n P I J ∧
      (∀ D ys M s, J n ys M → Hs g z (lR D ys :: M) s → Q (.ref D) s)) s₁) s)
    (ok : scopeOk scope xs = true := by kernel_rfl) (hclos : closureFor scope env = pure (closOf scope.names env.cells) := by kernel_rfl) (hs : ∀ x, foldedSetIterable iter env x = pure x := by intro _; rfl) :
    W w A (eval (.ListComp elt [⟨target, iter, ifs, 0⟩] scope pos) env) Q s := by
  have ok' := ok
  unfold scopeOk at ok'
  simp only [Bool.and_eq_true, beq_iff_eq, List.all_eq_true, bne_iff_ne, ne_eq, Bool.or_eq_true] at ok'
  obtain ⟨⟨⟨⟨hkind, hcell⟩, hloc⟩, hxs⟩, hnd⟩ := ok'
  rw [eval_ListComp]
  refine wpAny_comprehension_free (use := none) rfl hs hclos hkind (fun x hx hl => (hloc x hx).resolve_left fun q => q hl) (wpAny_mono h (fun xv s₁ h₁ => wpAny_mono h₁ (fun it s₂ h₂ => ?_) fun _ _ f => f) fun _ _ f => f)
  obtain ⟨g, z, n, P, I, N, J, M₀, It, j0, H, hsz, hN, hlen, body, done⟩ := h₂
  refine comp_core ok It j0 H hN hsz hlen body fun C D l ys M s hl hJ H => ?_
  obtain ⟨⟨m, hm, _⟩, _⟩ := H.get Take.head
  exact ⟨m, hm, fun h' hs' => done D ys M _ hJ (frR_but H hs')⟩
/-- a list comprehension whose list a name takes at once -/
theorem asg_comp_ {elt target iter : Expr} {ifs : List Expr} {scope : Scope} {pos spos py : Pos} {y : Str} {Q : Flow → Shared → Prop} (xs : List Str)
    (h : W w A (eval iter env) (fun xv s₁ => W w A (pyIter xv) (fun it s₂ => ∃ g z n P I N, ∃ (J : Nat → List Value → List Res → Prop) (M₀ : List Res), Iter w A it n P I N ∧ J 0 [] M₀ ∧ Hs g z (I 0 :: M₀) s₂ ∧ n ≤ 10000 ∧
      (∀ i ys M s, J i ys M → Hs g z M s → N s.heap) ∧ (∀ i ys M, J i ys M → ys.length ≤ i) ∧ CompBody w A g z target elt ifs scope env xs n P I J ∧
      (∀ C l D ys M s, J n ys M → Hs g z (frR C [] l :: lR D ys :: M) s → W w A (storeName env y (.ref D)) (fun _ s' => ∃ M', Hs g z (frR C [] l :: M') s' ∧ ∀ s'', Hs g z M' s'' → Q .next s'') s)) s₁) s)
    (hsw : swapsWith (.ListComp elt [⟨target, iter, ifs, 0⟩] scope pos) (some (.Name y py)) spos.line env = pure true := by kernel_rfl)
    (ok : scopeOk scope xs = true := by kernel_rfl) (hclos : closureFor scope env = pure (closOf scope.names env.cells) := by kernel_rfl) (hs : ∀ x, foldedSetIterable iter env x = pure x := by intro _; rfl) :
    W w A (exec (.Assign [.Name y py] (.ListComp elt [⟨target, iter, ifs, 0⟩] scope pos) spos) env) Q s := by
  have ok' := ok
  unfold scopeOk at ok'
  simp only [Bool.and_eq_true, beq_iff_eq, List.all_eq_true, bne_iff_ne, ne_eq, Bool.or_eq_true] at ok'
  obtain ⟨⟨⟨⟨hkind, hcell⟩, hloc⟩, hxs⟩, hnd⟩ := ok'
  rw [exec_Assign_Name_used _ _ _ _ hsw]
  refine wpAny_bind (wpAny_standAt (wpAny_bind ?_))
  show wpAny _ A (do let _ ← comprehension (.ListComp elt [⟨target, iter, ifs, 0⟩] scope pos) scope env _ (newList []) false (eval iter env) (some (assign (.Name y py) env))) _ _ s
  refine wpAny_bind (wpAny_mono (wpAny_comprehension_free (use := some (assign (.Name y py) env)) (Q := fun _ s' => Q .next s') rfl hs hclos hkind (fun x hx hl => (hloc x hx).resolve_left fun q => q hl)
    (wpAny_mono h (fun xv s₁ h₁ => wpAny_mono h₁ (fun it s₂ h₂ => ?_) fun _ _ f => f) fun _ _ f => f)) (fun _ s' hq => wpAny_pure (wpAny_pure hq)) fun _ _ e => e)
  obtain ⟨g, z, n, P, I, N, J, M₀, It, j0, H, hsz, hN, hlen, body, done⟩ := h₂
  refine comp_core ok It j0 H hN hsz hlen body fun C D l ys M s hl hJ H => ?_
  show wpAny _ A (assign (.Name y py) env (.ref D)) _ _ _
  refine wpAny_assign_Name (wpAny_mono (done C l D ys M s hJ H) (fun _ s' h => ?_) fun _ _ f => f)
  obtain ⟨M', H', q⟩ := h
  obtain ⟨⟨m, hm, _⟩, _⟩ := H'.get Take.head
  exact ⟨m, hm, fun h' hs' => q _ (frR_but H' hs')⟩
end
end
section
section
variable {w : World} {A : Around} {g : Heap} {z s s' : Shared} {M M' R : List Res} {env : Env}
def loadAt {α : Type} : Sem α → Option Addr
  | .load a _ _ => some a
  | _ => none
def loadK {α : Type} : Sem α → Obj → Option α
  | .load _ _ k, o => pureOf (k o)
  | _, _ => none
/-- the arguments of a def that has defaults -/
theorem bind_d {fa T : Addr} {args : Args} {binds : List (Str × Value)} (X : (Kf w).In s.heap) (h0 : ((Kf w).lookup T).isSome = true := by kernel_rfl) (h1 : loadAt (bindArgs (fdOf w fa) args) = some T := by kernel_rfl) (h3 : loadK (bindArgs (fdOf w fa) args) (objOf w T) = some binds := by kernel_rfl) :
    BindsTo s (fdOf w fa) args binds := by
  intro M A E Q q
  obtain ⟨o, ho⟩ := Option.isSome_iff_exists.mp h0
  have e : objOf w T = o := by unfold objOf; rw [ho]
  rw [e] at h3
  generalize bindArgs (fdOf w fa) args = t at *
  cases t <;> first | (cases h1; done) | skip
  rename_i a p k
  cases h1
  refine nd_load (X _ _ ho) ?_
  rw [of_pureOf h3]
  exact wpAny_pure q
/-- an object of an own class -/
def iR (x C dx : Addr) : Res := cR x (· = instObj C dx)
/-- the constraint's attributes -/
def csR (cd : Addr) (S : Value) : Res := cR cd fun o => ∃ h1 h2 t1 t2 n, o = dictOf [⟨h1, .str "_exactsum" t1, S⟩, ⟨h2, .str "_multipliers" t2, .none⟩] n
theorem i_at {x C dx : Addr} (H : Hs g z M s) (t : Take (iR x C dx) M M') : s.heap.get? x = some (instObj C dx) := by obtain ⟨o, e, rfl⟩ := H.get t; exact e
theorem sub_any {value slice : Expr} {pos : Pos} {Q : Value → Shared → Prop}
    (h : W w A (eval value env) (fun o s₁ => W w A (eval slice env) (fun i s₂ => W w A (getitemInPython o) (fun b s₃ => b = false ∧ W w A (getItem o i) Q s₃) s₂) s₁) s)
    (he : ∀ o i, subscripted slice false o i = operate [o, i] (getItem o i) := by intro _ _; rfl) : W w A (eval (.Subscript value slice pos) env) Q s := by
  rw [eval_Subscript]
  refine wpAny_bind (wpAny_mono h (fun o s₁ h₁ => wpAny_bind (wpAny_holding (wpAny_mono h₁ (fun i s₂ h₂ => wpAny_bind (wpAny_standAt ?_)) fun _ _ x => x))) fun _ _ x => x)
  refine wpAny_bind (wpAny_mono h₂ (fun b s₃ h₃ => ?_) fun _ _ f => f)
  obtain ⟨rfl, h₃⟩ := h₃
  refine wpAny_bind ?_
  rw [he]
  exact wpAny_operating (wpAny_mono h₃ (fun r s₃ h₃ => wpAny_bind (wpAny_letTemporaryGo (wpAny_pure h₃))) fun _ _ x => x)
theorem sub_dict {value slice : Expr} {pos : Pos} {Q : Value → Shared → Prop}
    (h : W w A (eval value env) (fun o s₁ => W w A (eval slice env) (fun i s₂ => ∃ g z M M' a kvs ep k t v, o = .ref a ∧ i = .int k t ∧ Hs g z M s₂ ∧ Take (dR w a kvs ep) M M' ∧ valueAt kvs k = some v ∧ ∀ s₃, Hs g z M s₃ → Q v s₃) s₁) s)
    (he : ∀ o i, subscripted slice false o i = operate [o, i] (getItem o i) := by intro _ _; rfl) : W w A (eval (.Subscript value slice pos) env) Q s := by
  refine sub_any (wpAny_mono h (fun o s₁ h₁ => wpAny_mono h₁ (fun i s₂ h₂ => ?_) fun _ _ f => f) fun _ _ f => f) he
  obtain ⟨g, z, M, M', a, kvs, ep, k, t, v, rfl, rfl, H, tk, hv, q⟩ := h₂
  exact d_gip H tk ⟨rfl, d_get H tk hv q⟩
def intOf : Value → Int
  | .int i _ => i
  | _ => 0
def isInt : Value → Bool
  | .int _ _ => true
  | _ => false
def vAt (kvs : List (Int × Value)) (k : Int) : Int := intOf ((valueAt kvs k).getD .none)
def psum (kvs : List (Int × Value)) (ns : List Int) : Int := (ns.map (vAt kvs)).sum
def miss (kvs : List (Int × Value)) (ns : List Int) : Bool := ns.any fun k => (valueAt kvs k).isNone
def allI (kvs : List (Int × Value)) : Prop := ∀ k v, valueAt kvs k = some v → isInt v = true
theorem isInt_ex {v : Value} (h : isInt v = true) : ∃ i t, v = .int i t := by cases v <;> first | cases h; done | exact ⟨_, _, rfl⟩
theorem nm_get {vs : List Value} {ns : List Int} (h : IntsAre vs ns) {i : Nat} {v : Value} (e : vs[i]? = some v) : ∃ k t, ns[i]? = some k ∧ v = .int k t := by
  induction h generalizing i with
  | nil => simp at e
  | cons n t _ ih =>
    cases i with
    | zero => simp at e; exact ⟨n, t, by simp, e.symm⟩
    | succ i => simp at e; obtain ⟨k, u, a, b⟩ := ih e; exact ⟨k, u, by simpa using a, b⟩
theorem nm_len {vs : List Value} {ns : List Int} (h : IntsAre vs ns) : vs.length = ns.length := by
  induction h with
  | nil => rfl
  | cons _ _ _ ih => simp [ih]
theorem psum_snoc {kvs : List (Int × Value)} {ns : List Int} {i : Nat} {k : Int} (h : ns[i]? = some k) : psum kvs (ns.take (i + 1)) = psum kvs (ns.take i) + vAt kvs k := by
  unfold psum; rw [List.take_add_one, h]; simp [List.sum_append]
theorem miss_snoc {kvs : List (Int × Value)} {ns : List Int} {i : Nat} {k : Int} (h : ns[i]? = some k) : miss kvs (ns.take (i + 1)) = (miss kvs (ns.take i) || (valueAt kvs k).isNone) := by
  unfold miss; rw [List.take_add_one, h]; simp [List.any_append]
theorem psum_take {kvs : List (Int × Value)} {ns : List Int} {n : Nat} (h : ns.length ≤ n) : psum kvs (ns.take n) = psum kvs ns := by rw [List.take_of_length_le h]
theorem miss_take {kvs : List (Int × Value)} {ns : List Int} {n : Nat} (h : ns.length ≤ n) : miss kvs (ns.take n) = miss kvs ns := by rw [List.take_of_length_le h]
/-- what stands in a domain -/
structure DS where
  xs : List Value
  hs : List Value
  ss : List Value
structure DA4 where
  d : Addr
  dd : Addr
  hl : Addr
  sl : Addr
def dom1 (a : DA4) (d : DS) : Res := domR a.d a.dd a.hl a.sl d.xs d.hs d.ss
/-- the domains of the variables ns -/
def famR (df : Int → DA4) (st : Int → DS) (ns : List Int) : Res := sR (ns.map fun k => dom1 (df k) (st k))
def upd (st : Int → DS) (k : Int) (d : DS) : Int → DS := fun j => if j = k then d else st j
theorem fam_eq {df : Int → DA4} {st st' : Int → DS} {ns : List Int} (h : ∀ k ∈ ns, st k = st' k) : famR df st ns = famR df st' ns := by
  unfold famR; congr 1; exact List.map_congr_left fun k hk => by rw [h k hk]
/-- one domain out of the family -/
theorem fam_out {df : Int → DA4} {st : Int → DS} {ns : List Int} {k : Int} (hk : k ∈ ns) (H : Hs g z (famR df st ns :: M) s) :
    ∃ pre post, ns = pre ++ k :: post ∧ Hs g z (dom1 (df k) (st k) :: sR ((pre ++ post).map fun j => dom1 (df j) (st j)) :: M) s := by
  obtain ⟨pre, post, rfl⟩ := List.append_of_mem hk
  refine ⟨pre, post, rfl, ?_⟩
  have H1 := Hs.open_ H
  rw [List.map_append, List.map_cons, List.append_assoc] at H1
  have H2 : Hs g z (dom1 (df k) (st k) :: ((pre ++ post).map (fun j => dom1 (df j) (st j)) ++ M)) s := H1.perm (by
    rw [List.map_append, List.append_assoc, List.cons_append]
    exact (List.perm_middle).symm)
  have H3 : Hs g z ((pre ++ post).map (fun j => dom1 (df j) (st j)) ++ (dom1 (df k) (st k) :: M)) s := H2.perm List.perm_middle
  exact (Hs.shut H3).perm (List.Perm.swap _ _ _)
theorem fam_in {df : Int → DA4} {st : Int → DS} {pre post : List Int} {k : Int} {d : DS} (hn : (pre ++ k :: post).Nodup) (H : Hs g z (dom1 (df k) d :: sR ((pre ++ post).map fun j => dom1 (df j) (st j)) :: M) s) :
    Hs g z (famR df (upd st k d) (pre ++ k :: post) :: M) s := by
  have H1 := Hs.open_ (H.perm (List.Perm.swap _ _ _))
  have hne : ∀ j ∈ pre ++ post, j ≠ k := by
    intro j hj e
    subst e
    have := List.nodup_append.mp hn
    rcases List.mem_append.mp hj with h | h
    · exact this.2.2 j h j List.mem_cons_self rfl
    · exact (List.nodup_cons.mp this.2.1).1 h
  have e : (pre ++ post).map (fun j => dom1 (df j) (st j)) = (pre ++ post).map (fun j => dom1 (df j) (upd st k d j)) := List.map_congr_left fun j hj => by
    unfold upd; rw [if_neg (hne j hj)]
  rw [e, List.map_append, List.append_assoc] at H1
  have ek : dom1 (df k) d = dom1 (df k) (upd st k d k) := by unfold upd; rw [if_pos rfl]
  rw [ek] at H1
  refine Hs.shut (l := (pre ++ k :: post).map fun j => dom1 (df j) (upd st k d j)) (H1.perm ?_)
  rw [List.map_append, List.map_cons, List.append_assoc, List.cons_append]
  exact List.Perm.append_left _ (List.perm_middle.symm)
/-- the values that may stay -/
def keepD (c : Int) (d : DS) : List Value := d.xs.takeWhile fun v => decide (intOf v ≤ c)
def dropD (c : Int) (d : DS) : List Value := d.xs.dropWhile fun v => decide (intOf v ≤ c)
def filt (c : Int) (d : DS) : DS := ⟨keepD c d, d.hs ++ dropD c d, d.ss⟩
structure OkD (d : DS) : Prop where
  int : ∀ v ∈ d.xs, isInt v = true
  srt : (d.xs.map intOf).Pairwise (· < ·)
  len : d.xs.length + d.hs.length ≤ 100
  lss : d.ss.length ≤ 100
theorem keep_drop (c : Int) (d : DS) : d.xs = keepD c d ++ dropD c d := (List.takeWhile_append_dropWhile ..).symm
theorem keep_le {c : Int} {d : DS} {v : Value} (h : v ∈ keepD c d) : intOf v ≤ c := by
  unfold keepD at h
  generalize d.xs = xs at h
  induction xs with
  | nil => simp at h
  | cons x r ih =>
    rw [List.takeWhile_cons] at h
    split at h
    · rename_i hx
      rcases List.mem_cons.mp h with rfl | h
      · simpa using hx
      · exact ih h
    · cases h
theorem drop_gt {c : Int} {d : DS} (o : OkD d) {v : Value} (h : v ∈ dropD c d) : c < intOf v := by
  have hs := o.srt
  unfold dropD at h
  generalize d.xs = xs at h hs
  clear o
  induction xs with
  | nil => simp at h
  | cons x r ih =>
    rw [List.map_cons, List.pairwise_cons] at hs
    rw [List.dropWhile_cons] at h
    split at h
    · exact ih h hs.2
    · rename_i hx
      have hx : c < intOf x := by simpa using hx
      rcases List.mem_cons.mp h with rfl | h
      · exact hx
      · exact Int.lt_trans hx (hs.1 _ (List.mem_map_of_mem h))
theorem ints_of {vs : List Value} (h : ∀ v ∈ vs, isInt v = true) : IntsAre vs (vs.map intOf) := by
  induction vs with
  | nil => exact .nil
  | cons v r ih =>
    obtain ⟨i, t, rfl⟩ := isInt_ex (h v List.mem_cons_self)
    exact .cons i t (ih fun v hv => h v (List.mem_cons_of_mem _ hv))
end
end
section
section
variable {w : World} {A : Around} {g : Heap} {z s s' : Shared} {M M' R : List Res} {env : Env}
def stD (c : Int) (st : Int → DS) (D : Int → Bool) : Int → DS := fun k => if D k then filt c (st k) else st k
/-- what a call of the constraint tells -/
structure Told (S : Int) (kvs : List (Int × Value)) (ns : List Int) (fb : Bool) (st st' : Int → DS) (r : Bool) : Prop where
  off : fb = false → st' = st ∧ r = (if miss kvs ns then decide (psum kvs ns ≤ S) else decide (psum kvs ns = S))
  on : fb = true → ∃ D : Int → Bool, st' = stD (S - psum kvs ns) st D ∧ (∀ k, D k = true → k ∈ ns ∧ valueAt kvs k = none) ∧
    (r = true → psum kvs ns ≤ S ∧ ∀ k ∈ ns, valueAt kvs k = none → D k = true ∧ keepD (S - psum kvs ns) (st k) ≠ []) ∧
    (r = false → psum kvs ns > S ∨ ∃ k ∈ ns, valueAt kvs k = none ∧ keepD (S - psum kvs ns) (st k) = [])
theorem fn_call {k : Nat} {c cd nA DA aA : Addr} {nm : List Value} {ns : List Int} {kvs dk : List (Int × Value)} {ep dep : Nat} {S : Int} {ts : Tok} {fc : Value} {fb : Bool} {df : Int → DA4} {st : Int → DS} {Q : Value → Shared → Prop} (hA : Ok (k + 8) A) (B : Base w g) (H : Hs g z M s)
    (pk : Pick M [iR c 463 cd, csR cd (.int S ts), lR nA nm, dR w aA kvs ep, dR w DA dk dep, famR df st ns] R) (hn : IntsAre nm ns) (hnd : ns.Nodup) (hall : allI kvs) (hl : ns.length ≤ 100)
    (hdk : ∀ k ∈ ns, valueAt dk k = some (.ref (df k).d)) (hok : ∀ k ∈ ns, OkD (st k))
    (hfc : ∀ (A' : Around) (s' : Shared) (Q : Bool → Shared → Prop), Hs g z R s' → (∀ n, Q fb { s' with toks := n }) → W w A' (truthy fc) Q s') (hm : fb = true → miss kvs ns = true)
    (q : ∀ r st' s', Told S kvs ns fb st st' r → Hs g z (iR c 463 cd :: csR cd (.int S ts) :: lR nA nm :: dR w aA kvs ep :: dR w DA dk dep :: famR df st' ns :: R) s' → Q (.bool r) s') :
    codeAny (model pr w) A (.call (.ref 460) ⟨[.ref c, .ref nA, .ref DA, .ref aA, fc], []⟩) (wants Q fun _ _ => False) s := by
  have H : Hs g z (iR c 463 cd :: csR cd (.int S ts) :: lR nA nm :: dR w aA kvs ep :: dR w DA dk dep :: famR df st ns :: R) s := H.pick pk
  have hb : BindsTo s (fdOf w 460) ⟨[.ref c, .ref nA, .ref DA, .ref aA, fc], []⟩ [("self", .ref c), ("variables", .ref nA), ("domains", .ref DA), ("assignments", .ref aA), ("forwardcheck", fc)] := bind_d (T := 453) (B.x H)
  have hsl : sizeLine = 2 ^ 24 := rfl
  have hlen : nm.length = ns.length := nm_len hn
  refine code_fn (k := k + 7) (l := [("self", some (.ref c)), ("variables", some (.ref nA)), ("domains", some (.ref DA)), ("assignments", some (.ref aA)), ("forwardcheck", some fc), ("multipliers", none), ("exactsum", none), ("sum", none), ("missing", none), ("variable", none), ("domain", none), ("value", none)]) hA B H hb ?_
  intro L s' H hA'
  with_unfolding_all refine wpAny_execs_cons ?_
  refine wpAny_Assign_Name ?_ (by kernel_rfl)
  refine eAttr ?_
  refine nmL (by assumption) (by walk_at "m_take") (by walk_at "m_mem") ?_
  obtain ⟨_, e2, a1, a2, t1, t2, n2, rfl⟩ := H.get (x := csR cd (.int S ts)) (by walk_at "m_take")
  refine ga (v := .none) (B.x H) (i_at H (x := c) (by walk_at "m_take")) rfl rfl rfl e2 (by kernel_rfl) rfl ?_
  have H := H.tok (s'.toks + 1)
  refine stL H (by walk_at "m_take") (by walk_at "m_upl") fun s1 H => ?_
  show W _ _ _ _ _
  refine wpAny_execs_cons ?_
  refine wpAny_Assign_Name ?_ (by kernel_rfl)
  refine eAttr ?_
  refine nmL (by assumption) (by walk_at "m_take") (by walk_at "m_mem") ?_
  obtain ⟨_, e3, a1, a2, t1, t2, n2, rfl⟩ := H.get (x := csR cd (.int S ts)) (by walk_at "m_take")
  refine ga (v := .int S ts) (B.x H) (i_at H (x := c) (by walk_at "m_take")) rfl rfl rfl e3 (by kernel_rfl) rfl ?_
  have H := H.tok (s1.toks + 1)
  refine stL H (by walk_at "m_take") (by walk_at "m_upl") fun s2 H => ?_
  show W _ _ _ _ _
  refine wpAny_execs_cons ?_
  refine wpAny_Assign_Name ?_ (by kernel_rfl)
  refine con_ H fun t3 s3 H => ?_
  refine stL H (by walk_at "m_take") (by walk_at "m_upl") fun s4 H => ?_
  show W _ _ _ _ _
  refine wpAny_execs_cons ?_
  refine wpAny_Assign_Name ?_ (by kernel_rfl)
  refine wpAny_Constant_bool ?_
  refine stL H (by walk_at "m_take") (by walk_at "m_upl") fun s5 H => ?_
  show W _ _ _ _ _
  refine wpAny_execs_cons ?_
  refine wpAny_If (isTrue_plain ?_)
  refine nmL (by assumption) (by walk_at "m_take") (by walk_at "m_mem") ?_
  refine truthy_none ?_
  rw [if_neg (by decide)]
  refine wpAny_execs_cons ?_
  refine for_ ?_
  refine nmL (by assumption) (by walk_at "m_take") (by walk_at "m_mem") ?_
  refine l_iter H (by walk_at "m_take") fun I s6 H => ?_
  refine ⟨g, z, nm.length, _, _, _, fun i M => ∃ t ov, M = frR L (cellsOf w 460 L) [("self", some (.ref c)), ("variables", some (.ref nA)), ("domains", some (.ref DA)), ("assignments", some (.ref aA)), ("forwardcheck", some fc), ("multipliers", some .none), ("exactsum", some (.int S ts)), ("sum", some (.int (psum kvs (ns.take i)) t)), ("missing", some (.bool (miss kvs (ns.take i)))), ("variable", ov), ("domain", none), ("value", none)] ::
    iR c 463 cd :: csR cd (.int S ts) :: lR nA nm :: dR w aA kvs ep :: dR w DA dk dep :: famR df st ns :: R, _, iter_list hA'.hd I nA nm, ⟨t3, none, rfl⟩, H, ?_, ?_, ?_⟩
  · rintro i M s ⟨t, ov, rfl⟩ H; exact has_seq (a := nA) H (by walk_at "m_take")
  · rintro i M v s hi ⟨t, ov, rfl⟩ hv H
    obtain ⟨k, tk, hk, rfl⟩ := nm_get hn hv
    refine wpAny_assign_Name ?_
    refine stL H (by walk_at "m_take") (by walk_at "m_upl") fun s7 H => ?_
    refine wpAny_execs_cons ?_
    refine wpAny_If ?_
    refine wpAny_isTrue_Compare1 ?_
    refine nmL (by assumption) (by walk_at "m_take") (by walk_at "m_mem") ?_
    refine nmL (by assumption) (by walk_at "m_take") (by walk_at "m_mem") ?_
    refine d_in H (by walk_at "m_take") fun s8 H => ?_
    refine wpAny_truthy_bool ?_
    have hsnoc := psum_snoc (kvs := kvs) hk
    have hmis := miss_snoc (kvs := kvs) hk
    cases hva : valueAt kvs k with
    | some v =>
      obtain ⟨x, tx, rfl⟩ := isInt_ex (hall k v hva)
      have hx : vAt kvs k = x := by unfold vAt; rw [hva]; rfl
      rw [hva] at hmis
      rw [Option.isSome_some, if_pos rfl]
      refine wpAny_execs_cons ?_
      refine wpAny_AugAssign_Name ?_
      refine ldL (by assumption) (by walk_at "m_take") (by walk_at "m_mem") ?_
      refine sub_dict ?_
      refine nmL (by assumption) (by walk_at "m_take") (by walk_at "m_mem") ?_
      refine nmL (by assumption) (by walk_at "m_take") (by walk_at "m_mem") ?_
      refine ⟨g, z, _, _, aA, kvs, ep, k, tk, _, rfl, rfl, H, (by walk_at "m_take"), hva, fun s9 H => ?_⟩
      refine iadd_ H fun t10 s10 H => ?_
      refine stL H (by walk_at "m_take") (by walk_at "m_upl") fun s11 H => ?_
      show W _ _ _ _ _
      refine wpAny_execs_nil ?_
      show W _ _ _ _ _
      refine wpAny_execs_nil ?_
      refine ⟨_, ⟨t10, some (.int k tk), rfl⟩, ?_⟩
      rw [hsnoc, hmis, hx, Option.isNone_some, Bool.or_false]
      exact H.sub (by walk_at "m_sub")
    | none =>
      have hx : vAt kvs k = 0 := by unfold vAt; rw [hva]; rfl
      rw [hva] at hmis
      rw [Option.isSome_none, if_neg (by decide)]
      refine wpAny_execs_cons ?_
      refine wpAny_Assign_Name ?_ (by kernel_rfl)
      refine wpAny_Constant_bool ?_
      refine stL H (by walk_at "m_take") (by walk_at "m_upl") fun s9 H => ?_
      show W _ _ _ _ _
      refine wpAny_execs_nil ?_
      show W _ _ _ _ _
      refine wpAny_execs_nil ?_
      refine ⟨_, ⟨t, some (.int k tk), rfl⟩, ?_⟩
      rw [hsnoc, hmis, hx, Option.isNone_none, Bool.or_true, Int.add_zero]
      exact H.sub (by walk_at "m_sub")
  · rintro M s ⟨t, ov, rfl⟩ H
    rw [psum_take (by omega), miss_take (by omega)] at H
    refine wpAny_execs_nil ?_
    show W _ _ _ _ _
    refine wpAny_execs_cons ?_
    refine wpAny_If (wpAny_isTrue_Compare1 ?_)
    refine nmL (by assumption) (by walk_at "m_take") (by walk_at "m_mem") ?_
    refine nmL (by assumption) (by walk_at "m_take") (by walk_at "m_mem") ?_
    refine P.gt_int (wpAny_truthy_bool ?_)
    generalize hP : psum kvs ns = P at *
    by_cases hgt : P > S
    · rw [decide_eq_true hgt, if_pos rfl]
      refine wpAny_execs_cons ?_
      refine wpAny_Return_some (wpAny_Constant_bool ?_)
      refine q false st _ ⟨fun _ => ⟨rfl, ?_⟩, fun _ => ⟨fun _ => false, rfl, (fun _ h => by cases h), (fun h => by cases h), fun _ => Or.inl (by rw [hP]; exact hgt)⟩⟩ (H.sub (by walk_at "m_sub"))
      rw [hP]
      have h1 : ¬ P ≤ S := by omega
      have h2 : ¬ P = S := by omega
      simp [h1, h2]
    rw [decide_eq_false hgt, if_neg (by decide)]
    refine wpAny_execs_nil ?_
    show W _ _ _ _ _
    refine wpAny_execs_cons ?_
    refine wpAny_If (isTrue_and (isTrue_plain ?_))
    refine nmL (by assumption) (by walk_at "m_take") (by walk_at "m_mem") ?_
    refine hfc _ _ _ (H.sub (xs := R) (by walk_at "m_sub")) fun n => ?_
    have H := H.tok n
    cases hfb : fb with
    | false =>
      rw [if_neg (by decide), if_neg (by decide)]
      refine wpAny_execs_nil ?_
      show W _ _ _ _ _
      refine wpAny_execs_nil ?_
      show W _ _ _ _ _
      refine wpAny_execs_cons ?_
      refine wpAny_If (isTrue_plain ?_)
      refine nmL (by assumption) (by walk_at "m_take") (by walk_at "m_mem") ?_
      refine wpAny_truthy_bool ?_
      have hle : P ≤ S := by omega
      split
      · rename_i hmt
        refine wpAny_execs_cons ?_
        refine wpAny_Return_some (wpAny_Compare1 ?_)
        refine nmL (by assumption) (by walk_at "m_take") (by walk_at "m_mem") ?_
        refine nmL (by assumption) (by walk_at "m_take") (by walk_at "m_mem") ?_
        refine PySem.P.le_int ?_
        rw [decide_eq_true hle]
        refine q true _ _ ?_ (H.sub (by walk_at "m_sub"))
        exact ⟨fun _ => ⟨rfl, by rw [hP, if_pos hmt, decide_eq_true hle]⟩, fun h => by rw [hfb] at h; cases h⟩
      · rename_i hmt
        refine wpAny_execs_cons ?_
        refine wpAny_Return_some (wpAny_Compare1 ?_)
        refine nmL (by assumption) (by walk_at "m_take") (by walk_at "m_mem") ?_
        refine nmL (by assumption) (by walk_at "m_take") (by walk_at "m_mem") ?_
        refine PySem.P.eq_int ?_
        refine q _ _ _ ?_ (H.sub (by walk_at "m_sub"))
        exact ⟨fun _ => ⟨rfl, by rw [hP, if_neg hmt]; rfl⟩, fun h => by rw [hfb] at h; cases h⟩
    | true =>
      have hmt : miss kvs ns = true := hm hfb
      rw [if_pos rfl]
      refine isTrue_and (isTrue_plain ?_)
      refine nmL (by assumption) (by walk_at "m_take") (by walk_at "m_mem") ?_
      refine wpAny_truthy_bool ?_
      rw [hmt, if_pos rfl]
      refine isTrue_and_nil ?_
      rw [if_pos rfl]
      rw [hmt] at H
      refine wpAny_execs_cons ?_
      refine for_ ?_
      refine nmL (by assumption) (by walk_at "m_take") (by walk_at "m_mem") ?_
      refine l_iter H (by walk_at "m_take") fun I2 s12 H => ?_
      have f0 : famR df st ns = famR df (stD (S - P) st fun k => decide (k ∈ ns.take 0) && (valueAt kvs k).isNone) ns := by
        refine fam_eq fun k _ => ?_
        simp [stD]
      rw [f0] at H
      refine ⟨g, z, nm.length, _, _, _, fun i M => ∃ ov dv vv, (∀ k ∈ ns.take i, valueAt kvs k = none → keepD (S - P) (st k) ≠ []) ∧ M = frR L (cellsOf w 460 L) [("self", some (.ref c)), ("variables", some (.ref nA)), ("domains", some (.ref DA)), ("assignments", some (.ref aA)), ("forwardcheck", some fc), ("multipliers", some .none), ("exactsum", some (.int S ts)), ("sum", some (.int P t)), ("missing", some (.bool true)), ("variable", ov), ("domain", dv), ("value", vv)] ::
        iR c 463 cd :: csR cd (.int S ts) :: lR nA nm :: dR w aA kvs ep :: dR w DA dk dep :: famR df (stD (S - P) st fun k => decide (k ∈ ns.take i) && (valueAt kvs k).isNone) ns :: R, _, iter_list hA'.hd I2 nA nm, ⟨ov, none, none, fun k hk => by simp at hk, rfl⟩, H.sub (by walk_at "m_sub"), ?_, ?_, ?_⟩
      · rintro i M s ⟨ov, dv, vv, _, rfl⟩ H; exact has_seq (a := nA) H (by walk_at "m_take")
      · rintro i M v s hi ⟨ov, dv, vv, hne, rfl⟩ hv H
        obtain ⟨k, tk, hk, rfl⟩ := nm_get hn hv
        have hkn : k ∈ ns := List.mem_of_getElem? hk
        have hkt : k ∉ ns.take i := by
          intro hin
          obtain ⟨j, hj, e⟩ := List.mem_iff_getElem.mp hin
          rw [List.length_take] at hj
          rw [List.getElem_take] at e
          obtain ⟨hi', e'⟩ := List.getElem?_eq_some_iff.mp hk
          exact (List.pairwise_iff_getElem.mp hnd) j i (by omega) hi' (by omega) (e.trans e'.symm)
        have htk : ns.take (i + 1) = ns.take i ++ [k] := by rw [List.take_add_one, hk]; rfl
        refine wpAny_assign_Name ?_
        refine stL H (by walk_at "m_take") (by walk_at "m_upl") fun s13 H => ?_
        refine wpAny_execs_cons ?_
        refine wpAny_If (wpAny_isTrue_Compare1 ?_)
        refine nmL (by assumption) (by walk_at "m_take") (by walk_at "m_mem") ?_
        refine nmL (by assumption) (by walk_at "m_take") (by walk_at "m_mem") ?_
        refine d_notin H (by walk_at "m_take") fun s14 H => ?_
        refine wpAny_truthy_bool ?_
        cases hva : valueAt kvs k with
        | some v =>
          rw [Option.isSome_some, if_neg (by decide)]
          refine wpAny_execs_nil ?_
          show W _ _ _ _ _
          refine wpAny_execs_nil ?_
          have f1 : famR df (stD (S - P) st fun k => decide (k ∈ ns.take i) && (valueAt kvs k).isNone) ns = famR df (stD (S - P) st fun k => decide (k ∈ ns.take (i + 1)) && (valueAt kvs k).isNone) ns := by
            refine fam_eq fun j _ => ?_
            by_cases hjk : j = k
            · subst hjk; simp [stD, htk, hva]
            · simp [stD, htk, hjk]
          rw [f1] at H
          refine ⟨_, ⟨some (.int k tk), dv, vv, fun j hj hja => ?_, rfl⟩, H.sub (by walk_at "m_sub")⟩
          rw [htk] at hj
          rcases List.mem_append.mp hj with hj | hj
          · exact hne j hj hja
          · rw [List.mem_singleton.mp hj, hva] at hja; cases hja
        | none =>
          rw [Option.isSome_none, if_pos (by rfl)]
          refine wpAny_execs_cons ?_
          refine wpAny_Assign_Name ?_ (by kernel_rfl)
          refine sub_dict ?_
          refine nmL (by assumption) (by walk_at "m_take") (by walk_at "m_mem") ?_
          refine nmL (by assumption) (by walk_at "m_take") (by walk_at "m_mem") ?_
          refine ⟨g, z, _, _, DA, dk, dep, k, tk, _, rfl, rfl, H, (by walk_at "m_take"), hdk k hkn, fun s15 H => ?_⟩
          refine stL H (by walk_at "m_take") (by walk_at "m_upl") fun s16 H => ?_
          show W _ _ _ _ _
          refine wpAny_execs_cons ?_
          have o := hok k hkn
          have estk : stD (S - P) st (fun k => decide (k ∈ ns.take i) && (valueAt kvs k).isNone) k = st k := by simp [stD, hkt]
          obtain ⟨pre, post, hpp, H⟩ := fam_out hkn (H.take (x := famR df (stD (S - P) st fun k => decide (k ∈ ns.take i) && (valueAt kvs k).isNone) ns) (by walk_at "m_take"))
          rw [estk] at H
          have hxs := keep_drop (S - P) (st k)
          have olen := o.len
          have olss := o.lss
          have hkl : (keepD (S - P) (st k)).length + (dropD (S - P) (st k)).length = (st k).xs.length := by rw [← List.length_append, ← hxs]
          have H : Hs g z (domR (df k).d (df k).dd (df k).hl (df k).sl (st k).xs (st k).hs (st k).ss :: _) s16 := H
          refine for_ ?_
          refine own_slice B ?_
          refine nmL (by assumption) (by walk_at "m_take") (by walk_at "m_mem") ?_
          refine ⟨z, _, _, (df k).d, _, (st k).xs, dom_open H (by walk_at "m_take"), (by walk_at "m_take"), by omega, rfl, fun b s17 H => ?_⟩
          refine l_iter H (by walk_at "m_take") fun I3 s18 H => ?_
          refine ⟨g, z, (st k).xs.length, _, _, _, fun j M => ∃ vv, M = frR L (cellsOf w 460 L) [("self", some (.ref c)), ("variables", some (.ref nA)), ("domains", some (.ref DA)), ("assignments", some (.ref aA)), ("forwardcheck", some fc), ("multipliers", some .none), ("exactsum", some (.int S ts)), ("sum", some (.int P t)), ("missing", some (.bool true)), ("variable", some (.int k tk)), ("domain", some (.ref (df k).d)), ("value", vv)] ::
            domR (df k).d (df k).dd (df k).hl (df k).sl (keepD (S - P) (st k) ++ (dropD (S - P) (st k)).drop (j - (keepD (S - P) (st k)).length)) ((st k).hs ++ (dropD (S - P) (st k)).take (j - (keepD (S - P) (st k)).length)) (st k).ss ::
            lR b (st k).xs :: sR ((pre ++ post).map fun j => dom1 (df j) (stD (S - P) st (fun k => decide (k ∈ ns.take i) && (valueAt kvs k).isNone) j)) ::
            liR I2 nA (i + 1) :: iR c 463 cd :: csR cd (.int S ts) :: lR nA nm :: dR w aA kvs ep :: dR w DA dk dep :: R, _, iter_list hA'.hd I3 b _, ⟨vv, rfl⟩, ?_, ?_, ?_, ?_⟩
          · rw [Nat.zero_sub, List.drop_zero, List.take_zero, List.append_nil, ← hxs]
            have H := H.sub (xs := qR (df k).d (.ref 356) (some (df k).dd) (st k).xs :: ddR (df k).dd (df k).hl (df k).sl :: lR (df k).hl (st k).hs :: lR (df k).sl (st k).ss :: liR I3 b 0 :: frR L (cellsOf w 460 L) [("self", some (.ref c)), ("variables", some (.ref nA)), ("domains", some (.ref DA)), ("assignments", some (.ref aA)), ("forwardcheck", some fc), ("multipliers", some .none), ("exactsum", some (.int S ts)), ("sum", some (.int P t)), ("missing", some (.bool true)), ("variable", some (.int k tk)), ("domain", some (.ref (df k).d)), ("value", vv)] ::
              lR b (st k).xs :: sR ((pre ++ post).map fun j => dom1 (df j) (stD (S - P) st (fun k => decide (k ∈ ns.take i) && (valueAt kvs k).isNone) j)) ::
            liR I2 nA (i + 1) :: iR c 463 cd :: csR cd (.int S ts) :: lR nA nm :: dR w aA kvs ep :: dR w DA dk dep :: R) (by walk_at "m_sub")
            exact (dom_shut H).sub (by walk_at "m_sub")
          · rintro j M s ⟨vv, rfl⟩ H; exact has_seq (a := b) H (by walk_at "m_take")
          · rintro j M v s hj ⟨vv, rfl⟩ hv H
            obtain ⟨x, tx, rfl⟩ := isInt_ex (o.int v (List.mem_of_getElem? hv))
            refine wpAny_assign_Name ?_
            refine stL H (by walk_at "m_take") (by walk_at "m_upl") fun s19 H => ?_
            refine wpAny_execs_cons ?_
            refine wpAny_If (wpAny_isTrue_Compare1 (wpAny_BinOp ?_))
            refine nmL (by assumption) (by walk_at "m_take") (by walk_at "m_mem") ?_
            refine nmL (by assumption) (by walk_at "m_take") (by walk_at "m_mem") ?_
            refine add_ H fun t20 s20 H => ?_
            refine nmL (by assumption) (by walk_at "m_take") (by walk_at "m_mem") ?_
            refine PySem.P.gt_int (wpAny_truthy_bool ?_)
            rw [hxs] at hv
            by_cases hjk : j < (keepD (S - P) (st k)).length
            · rw [List.getElem?_append_left hjk] at hv
              have hle := keep_le (List.mem_of_getElem? hv)
              have hle : x ≤ S - P := hle
              rw [decide_eq_false (by omega), if_neg (by decide)]
              refine wpAny_execs_nil ?_
              show W _ _ _ _ _
              refine wpAny_execs_nil ?_
              refine ⟨_, ⟨some (.int x tx), rfl⟩, ?_⟩
              have e1 : j + 1 - (keepD (S - P) (st k)).length = j - (keepD (S - P) (st k)).length := by omega
              rw [e1]
              exact H.sub (by walk_at "m_sub")
            · rw [List.getElem?_append_right (by omega)] at hv
              have hgt := drop_gt o (List.mem_of_getElem? hv)
              have hgt : S - P < x := hgt
              rw [decide_eq_true (by omega), if_pos rfl]
              obtain ⟨hm', hv'⟩ := List.getElem?_eq_some_iff.mp hv
              generalize hmm : j - (keepD (S - P) (st k)).length = m at *
              have hdr : (dropD (S - P) (st k)).drop m = .int x tx :: (dropD (S - P) (st k)).drop (m + 1) := by rw [List.drop_eq_getElem_cons hm', hv']
              have htr : (dropD (S - P) (st k)).take (m + 1) = (dropD (S - P) (st k)).take m ++ [.int x tx] := by rw [List.take_add_one, hv]; rfl
              refine wpAny_execs_cons ?_
              refine wpAny_Expr ?_ (by kernel_rfl) (by kernel_rfl)
              refine callM ?_
              refine nmL (by assumption) (by walk_at "m_take") (by walk_at "m_mem") ?_
              refine dom_meth (f := .ref 353) B (dom_open H (by walk_at "m_take")) (by walk_at "m_take") (by walk_at "m_take") (by intros; kernel_rfl) ?_ (by kernel_rfl)
              refine cwF ?_
              refine evalArgs1 ?_
              refine nmL (by assumption) (by walk_at "m_take") (by walk_at "m_mem") ?_
              refine ⟨rfl, B.x H, ?_⟩
              rw [hdr] at H
              have hki : ∀ v ∈ keepD (S - P) (st k), isInt v = true := fun v hv => o.int v (by rw [hxs]; exact List.mem_append_left _ hv)
              have hdi : ∀ v ∈ (dropD (S - P) (st k)).drop (m + 1), isInt v = true := fun v hv => o.int v (by rw [hxs]; exact List.mem_append_right _ (List.mem_of_mem_drop hv))
              refine fn_hide (pn := (keepD (S - P) (st k)).map intOf) (hA'.le (by omega)) B H (by walk_at "m_take") (ints_of hki) (ints_of hdi) ?_ (by simp only [List.length_drop, List.length_append, List.length_take]; omega) fun s21 H => ?_
              · intro hin
                obtain ⟨y, hy, e⟩ := List.mem_map.mp hin
                have := keep_le hy
                omega
              show W _ _ _ _ _
              refine wpAny_execs_nil ?_
              show W _ _ _ _ _
              refine wpAny_execs_nil ?_
              refine ⟨_, ⟨some (.int x tx), rfl⟩, ?_⟩
              have e1 : j + 1 - (keepD (S - P) (st k)).length = m + 1 := by omega
              rw [e1, htr, ← List.append_assoc]
              exact H.sub (by walk_at "m_sub")
          · rintro M s ⟨vv', rfl⟩ H
            have e1 : (st k).xs.length - (keepD (S - P) (st k)).length = (dropD (S - P) (st k)).length := by omega
            rw [e1, List.drop_length, List.take_length, List.append_nil] at H
            refine wpAny_execs_nil ?_
            show W _ _ _ _ _
            refine wpAny_execs_cons ?_
            refine wpAny_If (isTrue_not (isTrue_plain ?_))
            refine nmL (by assumption) (by walk_at "m_take") (by walk_at "m_mem") ?_
            obtain ⟨nq, eq⟩ := qR_at (a := (df k).d) (dom_open H (by walk_at "m_take")) (by walk_at "m_take")
            refine own_truthy (B.x H) eq (by omega) ?_
            have H := H.tok (s.toks + 1 + 1)
            have H := fam_in (d := filt (S - P) (st k)) (hpp ▸ hnd) (H.sub (xs := dom1 (df k) (filt (S - P) (st k)) :: sR ((pre ++ post).map fun j => dom1 (df j) (stD (S - P) st (fun k => decide (k ∈ ns.take i) && (valueAt kvs k).isNone) j)) :: liR I2 nA (i + 1) :: frR L (cellsOf w 460 L) [("self", some (.ref c)), ("variables", some (.ref nA)), ("domains", some (.ref DA)), ("assignments", some (.ref aA)), ("forwardcheck", some fc), ("multipliers", some .none), ("exactsum", some (.int S ts)), ("sum", some (.int P t)), ("missing", some (.bool true)), ("variable", some (.int k tk)), ("domain", some (.ref (df k).d)), ("value", vv')] ::
              iR c 463 cd :: csR cd (.int S ts) :: lR nA nm :: dR w aA kvs ep :: dR w DA dk dep :: R) (by unfold dom1 filt; walk_at "m_sub"))
            rw [← hpp] at H
            have f1 : famR df (upd (stD (S - P) st fun k => decide (k ∈ ns.take i) && (valueAt kvs k).isNone) k (filt (S - P) (st k))) ns = famR df (stD (S - P) st fun k => decide (k ∈ ns.take (i + 1)) && (valueAt kvs k).isNone) ns := by
              refine fam_eq fun j _ => ?_
              by_cases hjk : j = k
              · subst hjk; simp [upd, stD, htk, hva]
              · simp [upd, stD, htk, hjk]
            rw [f1] at H
            have hmem : ∀ j, (decide (j ∈ ns.take (i + 1)) && (valueAt kvs j).isNone) = true → j ∈ ns ∧ valueAt kvs j = none := fun j hj => by
              simp only [Bool.and_eq_true, decide_eq_true_eq, Option.isNone_iff_eq_none] at hj
              exact ⟨List.mem_of_mem_take hj.1, hj.2⟩
            cases hke : keepD (S - P) (st k) with
            | nil =>
              rw [if_pos (by rfl)]
              refine wpAny_execs_cons ?_
              refine wpAny_Return_some (wpAny_Constant_bool ?_)
              refine q false _ _ ⟨fun h => (by rw [hfb] at h; cases h), fun _ => ⟨_, by rw [hP], hmem, (fun h => by cases h), fun _ => Or.inr ⟨k, hkn, hva, by rw [hP]; exact hke⟩⟩⟩ (H.sub (by walk_at "m_sub"))
            | cons y ys =>
              rw [if_neg (by intro h; cases h)]
              refine wpAny_execs_nil ?_
              show W _ _ _ _ _
              refine wpAny_execs_nil ?_
              show W _ _ _ _ _
              refine wpAny_execs_nil ?_
              refine ⟨_, ⟨some (.int k tk), some (.ref (df k).d), vv', fun j hj hja => ?_, rfl⟩, H.sub (by walk_at "m_sub")⟩
              rw [htk] at hj
              rcases List.mem_append.mp hj with hj | hj
              · exact hne j hj hja
              · rw [List.mem_singleton.mp hj, hke]; exact List.cons_ne_nil _ _
      · rintro M s ⟨ov, dv, vv, hne, rfl⟩ H
        rw [List.take_of_length_le (show ns.length ≤ nm.length by omega)] at H hne
        refine wpAny_execs_nil ?_
        show W _ _ _ _ _
        refine wpAny_execs_nil ?_
        show W _ _ _ _ _
        refine wpAny_execs_nil ?_
        show W _ _ _ _ _
        refine wpAny_execs_cons ?_
        refine wpAny_If (isTrue_plain ?_)
        refine nmL (by assumption) (by walk_at "m_take") (by walk_at "m_mem") ?_
        refine wpAny_truthy_bool ?_
        rw [if_pos rfl]
        have hle : P ≤ S := by omega
        refine wpAny_execs_cons ?_
        refine wpAny_Return_some (wpAny_Compare1 ?_)
        refine nmL (by assumption) (by walk_at "m_take") (by walk_at "m_mem") ?_
        refine nmL (by assumption) (by walk_at "m_take") (by walk_at "m_mem") ?_
        refine PySem.P.le_int ?_
        rw [decide_eq_true hle]
        refine q true _ _ ⟨fun h => (by rw [hfb] at h; cases h), fun _ => ⟨_, by rw [hP], fun j hj => ?_, fun _ => ⟨by rw [hP]; exact hle, fun j hj hja => ⟨?_, by rw [hP]; exact hne j hj hja⟩⟩, fun h => by cases h⟩⟩ (H.sub (by walk_at "m_sub"))
        · simp only [Bool.and_eq_true, decide_eq_true_eq, Option.isNone_iff_eq_none] at hj
          exact hj
        · rw [hja]; simp [hj]
end
end
section
def allT {α : Type} (n : Nat) (P : α → Bool) : KasT α → Bool
  | .ret a => P a
  | .ask i j k => decide (i < n) && decide (j < n) && allT n P (k true) && allT n P (k false)
def permOk (n : Nat) (p : Array Nat) : Bool := p.size == n && p.toList.all (· < n) && (List.range n).all fun i => p.toList.contains i
theorem sort2 : allT 2 (permOk 2) (kas_sort 2) = true := by kernel_rfl
theorem sort3 : allT 3 (permOk 3) (kas_sort 3) = true := by kernel_rfl
theorem sort4 : allT 4 (permOk 4) (kas_sort 4) = true := by kernel_rfl
theorem sort24 {n : Nat} (h2 : 2 ≤ n) (h4 : n ≤ 4) : allT n (permOk n) (kas_sort n) = true := by
  rcases (show n = 2 ∨ n = 3 ∨ n = 4 by omega) with rfl | rfl | rfl
  · exact sort2
  · exact sort3
  · exact sort4
theorem allT_wp {α : Type} {n : Nat} {cmp : Nat → Nat → (Bool → Shared → Prop) → Shared → Prop} {P : α → Bool} {Q : α → Shared → Prop} {Inv : Shared → Prop} (hc : ∀ i j C s, i < n → j < n → Inv s → (∀ b s', Inv s' → C b s') → cmp i j C s) :
    ∀ (t : KasT α) (s : Shared), allT n P t = true → Inv s → (∀ a s', P a = true → Inv s' → Q a s') → t.kasWp cmp Q s
  | .ret a, s, h, hi, q => q a s h hi
  | .ask i j k, s, h, hi, q => by
    unfold allT at h
    rw [Bool.and_eq_true, Bool.and_eq_true, Bool.and_eq_true, decide_eq_true_eq, decide_eq_true_eq] at h
    refine hc i j _ s h.1.1.1 h.1.1.2 hi fun b s' hi' => ?_
    cases b with
    | true => exact allT_wp hc (k true) s' h.1.2 hi' q
    | false => exact allT_wp hc (k false) s' h.2 hi' q
/-- what such an order picks out of a list -/
theorem perm_out {vs : List Value} {p : Array Nat} (h : permOk vs.length p = true) (v : Value) : v ∈ (p.toList.map fun i => vs.getD i Value.none) ↔ v ∈ vs := by
  unfold permOk at h
  simp only [Bool.and_eq_true, List.all_eq_true, decide_eq_true_eq, List.mem_range, List.contains_iff_mem] at h
  obtain ⟨⟨_, h1⟩, h2⟩ := h
  constructor
  · intro hv
    obtain ⟨i, hi, rfl⟩ := List.mem_map.mp hv
    have := h1 i hi
    rw [List.getD_eq_getElem?_getD, List.getElem?_eq_getElem this]
    exact List.getElem_mem this
  · intro hv
    obtain ⟨i, hi, rfl⟩ := List.mem_iff_getElem.mp hv
    refine List.mem_map.mpr ⟨i, h2 i hi, ?_⟩
    rw [List.getD_eq_getElem?_getD, List.getElem?_eq_getElem hi]; rfl
section
variable {w : World} {A : Around} {g : Heap} {z s s' : Shared} {M M' R : List Res} {a : Addr} {vs : List Value}
/-- list.sort, with what its questions are answered with -/
theorem sort_body {Q : Value → Shared → Prop} {Out : List Value → Prop} (H : Hs g z M s) (t : Take (lR a vs) M M') (h2 : 2 ≤ vs.length) (h64 : vs.length < 64)
    (κ : SortKind) (kind : ∀ N s' (P : SortKind → Shared → Prop), Hs g z N s' → Sub N M' → (∀ s'', Hs g z N s'' → P κ s'') → W w A (keyKind' vs.toArray) P s')
    (ask : ∀ N (G : Array Nat → Shared → Prop) s', Hs g z N s' → Sub N M' → (∀ p s'', p.size = vs.length → Out (p.toList.map fun i => vs.getD i Value.none) → Hs g z N s'' → G p s'') → (kas_sort vs.length).kasWp (kas_ask pr w A κ vs) G s')
    (q : ∀ ws s', Out ws → ws.length = vs.length → Hs g z (lR a ws :: M') s' → Q .none s') :
    wpAny (model pr w) A (Builtin.«list.sort» ⟨[.ref a], []⟩) (fun fin s' => ∃ v, fin = .done (.ret v) ∧ Q v s') (fun _ _ => False) s := by
  obtain ⟨n, ho⟩ := qR_at H t
  have H1 := put_seq (ws := []) H t (fun _ => #[]) rfl s.toks
  obtain ⟨e1, ho1⟩ := qR_at H1 Take.head
  have H2 := new_obj (p := fun _ => True) (o := seqObj "tuple" vs.toArray 0) H1 trivial rfl s.toks
  have H3 := new_obj (p := fun _ => True) (o := seqObj "list" #[] 0) H2 trivial rfl s.toks
  have H4 := (H3.sub (xs := lR a [] :: M') (Sub.drop (Sub.drop Sub.refl))).imp (r' := cR a (· = seqObj "list" #[] e1)) (fun _ f => f) (fun _ => ⟨_, Heap.get?_push_of_some _ (Heap.get?_push_of_some _ ho1), rfl⟩)
  rw [list_sort_plain]
  refine wpAny_bind (listItems_at ho rfl ?_)
  refine wpAny_bind (listUpdate_at ho rfl ?_ (by rw [List.size_toArray, sizeLine_eq]; omega) (Nat.zero_le _))
  refine wpAny_bind (seqEpoch_at ho1 rfl ?_)
  refine wpAny_bind (wpAny_newTuple ?_ (by show vs.length ≤ _; rw [sizeLine_eq]; omega))
  refine wpAny_bind (wpAny_newList ?_ (Nat.zero_le _))
  refine wpAny_holding ?_
  show wpAny (model pr w) A _ _ _ { s with heap := ((s.heap.update a (Obj.mapSeq fun _ => (#[] : Array Value))).push (seqObj "tuple" vs.toArray 0)).push (seqObj "list" #[] 0) }
  dsimp only
  have hn2 : ¬ vs.toArray.size < 2 := by rw [List.size_toArray]; omega
  rw [if_neg hn2, if_neg hn2]
  refine wpAny_bind (W.any (kind _ _ _ H4 (Sub.drop Sub.refl) fun s0 H5 => ?_))
  refine wpAny_bind (wpAny_mono (kat_run (Q := fun st' s' => ∃ p : Array Nat, p.size = vs.length ∧ arrOf st' = p.map (kas_item (vs.toArray.zip vs.toArray)) ∧ failedOf st' = none ∧ Out (p.toList.map fun i => vs.getD i Value.none) ∧ Hs g z (cR a (· = seqObj "list" #[] e1) :: M') s')
    (G := fun p s' => p.size = vs.length ∧ Out (p.toList.map fun i => vs.getD i Value.none) ∧ Hs g z (cR a (· = seqObj "list" #[] e1) :: M') s')
    rfl h2 h64 (fun p' st' s' a1 a2 a3 a4 => ⟨p', a1, a2, a3, a4.2⟩) (ask _ _ s0 H5 (Sub.drop Sub.refl) fun p s'' h1 h2 h3 => ⟨h1, h2, h3⟩)) ?_ fun _ _ e => e)
  rintro ⟨⟨⟩, st'⟩ s' ⟨p, hp, har, hf, hOut, H6⟩
  dsimp only
  obtain ⟨_, ho6, rfl⟩ := H6.get Take.head
  have hout := kat_snds rfl har
  have hsz : (List.toArray (p.toList.map fun i => vs.getD i Value.none)).size = vs.length := by rw [List.size_toArray, List.length_map, Array.length_toList, hp]
  rw [hout]
  have H6' := H6.imp (r' := lR a []) (fun _ f => f) (fun ⟨o, e, ho⟩ => ⟨o, e, e1, ho⟩)
  have H7 := put_seq (ws := p.toList.map fun i => vs.getD i Value.none) H6' Take.head (fun _ => List.toArray (p.toList.map fun i => vs.getD i Value.none)) rfl s'.toks
  refine wpAny_bind (seqEpoch_at ho6 rfl ?_)
  refine wpAny_bind (listUpdate_at ho6 rfl ?_ (Nat.zero_le _) (Nat.le_trans (Nat.le_of_eq hsz) (by rw [sizeLine_eq]; omega)))
  rw [hf]
  simp only [bne_self_eq_false, Bool.false_eq_true, if_false]
  exact wpAny_pure ⟨_, rfl, q _ _ hOut (by rw [List.length_map, Array.length_toList, hp]) H7⟩
/-- tuples of ints -/
def tupsR (l : List (Addr × List Value)) : Res := sR (l.map fun p => tR p.1 p.2)
theorem tup_at {l : List (Addr × List Value)} (H : Hs g z M s) (t : Take (tupsR l) M M') {p : Addr × List Value} (hp : p ∈ l) : ∃ n, s.heap.get? p.1 = some ⟨.type "tuple", none, .seq p.2.toArray n, #[]⟩ := by
  have := (H.get t).1 (tR p.1 p.2) (List.mem_map_of_mem hp)
  obtain ⟨o, e, n, rfl⟩ := this
  exact ⟨n, e⟩
theorem lex_any {b fin : Bool} {Q : Bool → Shared → Prop} : ∀ (l : List (Value × Value)) (i : Nat), (∀ p ∈ l, isInt p.1 = true ∧ isInt p.2 = true) → (∀ c, Q c s) → KatLex pr w A b fin Q l i s
  | [], _, _, q => kat_nil (q _)
  | (p, r) :: l, i, h, q => by
    obtain ⟨h1, h2⟩ := h _ List.mem_cons_self
    obtain ⟨x, t, rfl⟩ := isInt_ex h1
    obtain ⟨y, u, rfl⟩ := isInt_ex h2
    refine kat_cons (wpAny_eqBool_int ?_)
    refine kat_go (fun _ => kat_yes (lex_any l (i + 1) (fun p hp => h p (List.mem_cons_of_mem _ hp)) q)) fun _ => kat_no ?_
    cases hb : (b && i == 0) with
    | true => exact oneLt_int (q _)
    | false => exact kat_one _ _ (PySem.P.lt_int (q _))
/-- sort of a list of tuples of ints: the same tuples, in some order -/
theorem sort_tups {l : List (Addr × List Value)} {pos : Pos} {Q : Value → Shared → Prop} (H : Hs g z M s) (t : Take (lR a (l.map fun p => .ref p.1)) M M') (t2 : Take (tupsR l) M' R) (h2 : 2 ≤ l.length) (h4 : l.length ≤ 4)
    (hi : ∀ p ∈ l, p.2 ≠ [] ∧ ∀ v ∈ p.2, isInt v = true)
    (q : ∀ ws s', (∀ v, v ∈ ws ↔ ∃ p ∈ l, v = .ref p.1) → ws.length = l.length → Hs g z (lR a ws :: M') s' → Q .none s') : W w A (callWith pos (.builtin "list.sort") [.ref a] [] []) Q s := by
  obtain ⟨n, ho⟩ := qR_at H t
  refine Calls.callWith_builtin rfl (PyProof.Rows.evalArgs_none ?_)
  refine wpAny_call_entry slot_list_sort ⟨_, ho, rfl⟩ entry_list_sort ?_ (args_list_sort _)
  have hlen : (l.map fun p => Value.ref p.1).length = l.length := by simp
  refine sort_body (Out := fun ws => ∀ v, v ∈ ws ↔ ∃ p ∈ l, v = .ref p.1) H t (by omega) (by omega) (tuples' true) ?_ ?_ (fun ws s' ho hl H => q ws s' ho (by omega) H)
  · intro N s' P H hs hP
    have hk : ∀ l' : List (Addr × List Value), (∀ p ∈ l', p ∈ l) → KatTups s'.heap (l'.map fun p => Value.ref p.1) (l'.map fun p => p.2.headD .none) := by
      intro l'
      induction l' with
      | nil => intro _; exact KatTups.nil
      | cons p r ih =>
        intro hm
        have hp := hm p List.mem_cons_self
        obtain ⟨k, e⟩ := tup_at (H.sub hs) t2 hp
        obtain ⟨hne, _⟩ := hi p hp
        refine KatTups.cons e rfl rfl ?_ (ih fun q hq => hm q (List.mem_cons_of_mem _ hq))
        cases hp2 : p.2 with
        | nil => exact absurd hp2 hne
        | cons x y => show _ = some (p.2.headD .none); rw [hp2]; rfl
    refine kat_kind (fs := l.map fun p => p.2.headD .none) (T := .type "int") (hk l fun _ h => h) (by simp; omega) ?_ (by decide) (hP _ H)
    intro v hv
    obtain ⟨p, hp, rfl⟩ := List.mem_map.mp hv
    obtain ⟨hne, hint⟩ := hi p hp
    cases hp2 : p.2 with
    | nil => exact absurd hp2 hne
    | cons x y =>
      obtain ⟨i, u, rfl⟩ := isInt_ex (hint x (by rw [hp2]; exact List.mem_cons_self))
      exact Looks.of_pure rfl
  · intro N G s' H hs hG
    refine allT_wp (n := l.length) (P := permOk l.length) (Inv := Hs g z N) ?_ _ s' (by rw [hlen]; exact sort24 h2 h4) H ?_
    · intro i j C s2 hi' hj' H2 hC
      unfold kas_ask
      have hget : ∀ i, i < l.length → ∃ p ∈ l, (l.map fun p => Value.ref p.1).getD i .none = .ref p.1 := fun i h => by
        refine ⟨l[i], List.getElem_mem h, ?_⟩
        rw [List.getD_eq_getElem?_getD, List.getElem?_map, List.getElem?_eq_getElem h]; rfl
      obtain ⟨p, hp, ep⟩ := hget i hi'
      obtain ⟨r, hr, er⟩ := hget j hj'
      rw [ep, er]
      obtain ⟨k1, e1⟩ := tup_at (H2.sub hs) t2 hp
      obtain ⟨k2, e2⟩ := tup_at (H2.sub hs) t2 hr
      refine kat_lt e1 rfl e2 rfl (lex_any _ _ (fun x hx => ?_) fun c => hC c _ H2)
      have hx : x ∈ p.2.zip r.2 := by simpa using hx
      have := List.of_mem_zip (show (x.1, x.2) ∈ p.2.zip r.2 from hx)
      exact ⟨(hi p hp).2 _ this.1, (hi r hr).2 _ this.2⟩
    · intro p s2 hP H2
      have hsz : p.size = l.length := by
        unfold permOk at hP
        simp only [Bool.and_eq_true, beq_iff_eq] at hP
        exact hP.1.1
      refine hG p s2 (by rw [hlen]; exact hsz) (fun v => ?_) H2
      rw [perm_out (by rw [hlen]; exact hP)]
      constructor
      · intro hv; obtain ⟨p, hp, e⟩ := List.mem_map.mp hv; exact ⟨p, hp, e.symm⟩
      · rintro ⟨p, hp, rfl⟩; exact List.mem_map_of_mem hp
end
end
section
/-- a problem as the solvers get it -/
structure Pb where
  ns : List Int
  nm : List Value
  nA : Addr
  c : Addr
  cd : Addr
  S : Int
  ts : Tok
  df : Int → DA4
  DA : Addr
  VA : Addr
  dep : Nat
  vep : Nat
  vl : Int → Addr
  vt : Int → Addr
def Pb.dk (p : Pb) : List (Int × Value) := p.ns.map fun k => (k, .ref (p.df k).d)
def Pb.vk (p : Pb) : List (Int × Value) := p.ns.map fun k => (k, .ref (p.vl k))
def vcR (p : Pb) (k : Int) : Res := sR [lR (p.vl k) [.ref (p.vt k)], tR (p.vt k) [.ref p.c, .ref p.nA]]
def vcsR (p : Pb) : Res := sR (p.ns.map (vcR p))
structure Pb.Ok (p : Pb) : Prop where
  nm : IntsAre p.nm p.ns
  nd : p.ns.Nodup
  l2 : 2 ≤ p.ns.length
  l4 : p.ns.length ≤ 4
theorem vAt_map {f : Int → Value} : ∀ {ns : List Int} {k : Int}, k ∈ ns → valueAt (ns.map fun k => (k, f k)) k = some (f k)
  | [], k, h => by cases h
  | a :: r, k, h => by
    unfold valueAt
    rw [List.map_cons, List.find?_cons]
    by_cases e : a = k
    · subst e; simp
    · rcases List.mem_cons.mp h with rfl | h
      · exact absurd rfl e
      · have := vAt_map (f := f) h
        unfold valueAt at this
        simp only [e, decide_false]
        exact this
section
variable {w : World} {A : Around} {g : Heap} {z s s' : Shared} {M M' R : List Res} {env : Env} {p : Pb}
theorem vc_at (H : Hs g z M s) (t : Take (vcsR p) M M') {k : Int} (hk : k ∈ p.ns) : (∃ n, s.heap.get? (p.vl k) = some (listOf [Value.ref (p.vt k)].toArray n)) ∧ ∃ n, s.heap.get? (p.vt k) = some ⟨.type "tuple", none, .seq [Value.ref p.c, .ref p.nA].toArray n, #[]⟩ := by
  have h := (H.get t).1 (vcR p k) (List.mem_map_of_mem hk)
  have h1 := h.1 (lR (p.vl k) [.ref (p.vt k)]) List.mem_cons_self
  have h2 := h.1 (tR (p.vt k) [.ref p.c, .ref p.nA]) (List.mem_cons_of_mem _ List.mem_cons_self)
  obtain ⟨_, e1, n1, rfl⟩ := h1
  obtain ⟨_, e2, n2, rfl⟩ := h2
  exact ⟨⟨n1, e1⟩, n2, e2⟩
theorem fam_at {df : Int → DA4} {st : Int → DS} {ns : List Int} (H : Hs g z M s) (t : Take (famR df st ns) M M') {k : Int} (hk : k ∈ ns) : ∃ n, s.heap.get? (df k).d = some ⟨.ref 356, some (df k).dd, .seq (st k).xs.toArray n, #[]⟩ := by
  have h := (H.get t).1 (dom1 (df k) (st k)) (List.mem_map_of_mem hk)
  have h1 := h.1 (qR (df k).d (.ref 356) (some (df k).dd) (st k).xs) List.mem_cons_self
  obtain ⟨_, e1, n1, rfl⟩ := h1
  exact ⟨n1, e1⟩
theorem tups_add {l : List (Addr × List Value)} {a : Addr} {vs : List Value} (H : Hs g z M s) (pk : Pick M [tR a vs, tupsR l] R) : Hs g z (tupsR (l ++ [(a, vs)]) :: R) s := by
  have H : Hs g z (tR a vs :: tupsR l :: R) s := H.pick pk
  have H1 := Hs.open_ (H.perm (List.Perm.swap _ _ _))
  refine Hs.shut (l := (l ++ [(a, vs)]).map fun p => tR p.1 p.2) ?_
  rw [List.map_append, List.append_assoc]
  exact H1
theorem tups_nil (H : Hs g z M s) : Hs g z (tupsR [] :: M) s := Hs.shut (l := []) H
theorem len_list {ax : Addr} {vs : List Value} {n : Nat} {Q : Value → Shared → Prop} (H : Hs g z M s) (e : s.heap.get? ax = some (listOf vs.toArray n)) (hsz : vs.length ≤ sizeLine) (q : ∀ t s', Hs g z M s' → Q (.int vs.length t) s') : W w A (call (.builtin "len") [.ref ax]) Q s := by
  have hl : sizeLine = 2 ^ 24 := rfl
  refine call_len_list (items := vs.toArray) ⟨_, e, rfl, n, rfl⟩ (by simp; omega) ?_
  have := q (s.toks + 1) _ (H.tok (s.toks + 1 + 1))
  simpa using this
/-- the tuples that the solvers sort -/
structure Tups (ns : List Int) (l : List (Addr × List Value)) : Prop where
  shape : ∀ p ∈ l, ∃ a b k t, p.2 = [a, b, .int k t] ∧ isInt a = true ∧ isInt b = true ∧ k ∈ ns
  all : ∀ k ∈ ns, ∃ p ∈ l, ∃ a b t, p.2 = [a, b, .int k t]
theorem Tups.snoc {ns : List Int} {l : List (Addr × List Value)} {x : Addr} {a b : Value} {k : Int} {t : Tok} (h : Tups ns l) (ha : isInt a = true) (hb : isInt b = true) : Tups (ns ++ [k]) (l ++ [(x, [a, b, .int k t])]) := by
  refine ⟨fun p hp => ?_, fun j hj => ?_⟩
  · rcases List.mem_append.mp hp with hp | hp
    · obtain ⟨a, b, j, t, e, h1, h2, h3⟩ := h.shape p hp; exact ⟨a, b, j, t, e, h1, h2, List.mem_append_left _ h3⟩
    · rw [List.mem_singleton.mp hp]; exact ⟨a, b, k, t, rfl, ha, hb, List.mem_append_right _ List.mem_cons_self⟩
  · rcases List.mem_append.mp hj with hj | hj
    · obtain ⟨p, hp, r⟩ := h.all j hj; exact ⟨p, List.mem_append_left _ hp, r⟩
    · rw [List.mem_singleton.mp hj]; exact ⟨_, List.mem_append_right _ List.mem_cons_self, a, b, t, rfl⟩
/-- the room that a domain needs on the way down -/
structure Room (d : DS) (u : Nat) : Prop where
  ok : OkD d
  ss : d.ss.length + u ≤ 100
theorem one_name {l : List (Str × Option Value)} {x : Str} (h : l.map (·.1) = [x]) : ∃ o, l = [(x, o)] := by
  match l, h with
  | [(y, o)], h => exact ⟨o, by rw [show y = x from by simpa using h]⟩
/-- the solver's attribute -/
def fcR (sd : Addr) (b : Bool) : Res := cR sd fun o => ∃ h t n, o = dictOf [⟨h, .str "_forwardcheck" t, .bool b⟩] n
theorem dom_call {k : Int} {df : Int → DA4} {st : Int → DS} {ns : List Int} {name : Str} {f : Addr} {pl : Sem Bool} {Q : Value × List Value → Shared → Prop} (B : Base w g) (H : Hs g z M s) (t : Take (famR df st ns) M M') (hk : k ∈ ns)
    (hn : ∀ h1 h2 t1 t2 v1 v2, getL name [⟨h1, .str "_hidden" t1, v1⟩, ⟨h2, .str "_states" t2, v2⟩] = some none) (q : Q (.ref f, [.ref (df k).d]) s) (ok : methOkL w 356 name (.ref f) = true) : W w A (getMethod (.ref (df k).d) name pl) Q s := by
  obtain ⟨pre, post, _, H1⟩ := fam_out hk (H.take t)
  have H1 : Hs g z (domR (df k).d (df k).dd (df k).hl (df k).sl (st k).xs (st k).hs (st k).ss :: _) s := H1
  exact dom_meth B (dom_open H1 Take.head) Take.head (Take.tail Take.head) hn q ok
def pushD (d : DS) (t : Tok) : DS := ⟨d.xs, d.hs, d.ss ++ [.int d.xs.length t]⟩
theorem fam_push {k : Int} {df : Int → DA4} {st : Int → DS} {ns : List Int} {Q : Value → Shared → Prop} (hA : Ok 5 A) (B : Base w g) (H : Hs g z M s) (t0 : Take (famR df st ns) M M') (hn : ns.Nodup) (hk : k ∈ ns) (h1 : (st k).xs.length ≤ 1000) (h2 : (st k).ss.length ≤ 1000)
    (q : ∀ t s', Hs g z (famR df (upd st k (pushD (st k) t)) ns :: M') s' → Q .none s') : W w A (call (.ref 339) [.ref (df k).d]) Q s := by
  have hl : sizeLine = 2 ^ 24 := rfl
  obtain ⟨pre, post, e, H1⟩ := fam_out hk (H.take t0)
  have H1 : Hs g z (domR (df k).d (df k).dd (df k).hl (df k).sl (st k).xs (st k).hs (st k).ss :: _) s := H1
  refine fn_push hA B H1 Take.head (by omega) (by omega) fun s' t H2 => q t s' ?_
  subst e
  exact fam_in (d := pushD (st k) t) hn H2
theorem fam_pop {k : Int} {df : Int → DA4} {st : Int → DS} {ns : List Int} {xs bs hs ss : List Value} {tk : Tok} {Q : Value → Shared → Prop} (hA : Ok 5 A) (B : Base w g) (H : Hs g z M s) (t : Take (famR df st ns) M M') (hn : ns.Nodup) (hk : k ∈ ns)
    (hst : st k = ⟨xs, hs ++ bs, ss ++ [.int ((xs.length : Int) + bs.length) tk]⟩) (h1 : xs.length + bs.length + hs.length ≤ 1000) (h2 : ss.length ≤ 1000)
    (q : ∀ s', Hs g z (famR df (upd st k ⟨xs ++ bs, hs, ss⟩) ns :: M') s' → Q .none s') : W w A (call (.ref 346) [.ref (df k).d]) Q s := by
  obtain ⟨pre, post, e, H1⟩ := fam_out hk (H.take t)
  rw [hst] at H1
  have H1 : Hs g z (domR (df k).d (df k).dd (df k).hl (df k).sl xs (hs ++ bs) (ss ++ [.int ((xs.length : Int) + bs.length) tk]) :: _) s := H1
  refine fn_pop hA B H1 Take.head h1 h2 fun s' H2 => q s' ?_
  subst e
  exact fam_in (d := ⟨xs ++ bs, hs, ss⟩) hn H2
/-- a method without arguments is called of each domain of a list -/
theorem loop_dom {L fA f : Addr} {cs : List (Str × Addr)} {lf : Option Value → List (Str × Option Value)} {x y m : Str} {p1 p2 p3 p4 p5 p6 p7 : Pos} {df : Int → DA4} {st : Int → DS} {ns ps : List Int} {o : Option Value} {Q : Flow → Shared → Prop} (J : Nat → (Int → DS) → Prop)
    (hh : A.handled = none) (B : Base w g) (H : Hs g z (frR L cs (lf o) :: famR df st ns :: M) s) (tk : Take (lR fA (ps.map fun k => .ref (df k).d)) M M') (hps : ∀ k ∈ ps, k ∈ ns) (j0 : J 0 st)
    (hu : ∀ o v, Upl x (some v) (lf o) (lf (some v))) (hx : ∀ v, (x, some v) ∈ lf (some v)) (hy : ∀ o, (y, some (.ref fA)) ∈ lf o) (hL : env.locals = L)
    (hk : env.scope.kind = .function) (hkx : env.kindOf x = some .local) (hky : env.kindOf y = some .local) (hcx : cs.lookup x = none) (hcy : cs.lookup y = none) (hdx : (x == ("__debug__" : Str)) = false) (hdy : (y == ("__debug__" : Str)) = false)
    (hn : ∀ h1 h2 t1 t2 v1 v2, getL m [⟨h1, .str "_hidden" t1, v1⟩, ⟨h2, .str "_states" t2, v2⟩] = some none) (ok : methOkL w 356 m (.ref f) = true) (hf : fnOk w f = true) (hint : interactive env = false) (hline : (p4.endLine == p5.line) = true)
    (step : ∀ i k st' N s' (Q : Value → Shared → Prop), ps[i]? = some k → J i st' → Hs g z (famR df st' ns :: N) s' → (∀ st'' s'', J (i + 1) st'' → Hs g z (famR df st'' ns :: N) s'' → Q .none s'') → W w A (call (.ref f) [.ref (df k).d]) Q s')
    (q : ∀ o st' s', J ps.length st' → Hs g z (frR L cs (lf o) :: famR df st' ns :: M) s' → Q .next s') :
    W w A (exec (.For (.Name x p1) (.Name y p2) [.Expr (.Call (.Attribute (.Name x p3) m p4) [] [] p5) p6] [] p7) env) Q s := by
  refine for_ ?_
  refine nmL H Take.head (hy o) ?_ hL hk hky hcy hdy
  refine l_iter H (Take.tail (Take.tail tk)) fun I s1 H => ?_
  refine ⟨g, z, (ps.map fun k => Value.ref (df k).d).length, _, _, _, fun i M0 => ∃ o st', J i st' ∧ M0 = frR L cs (lf o) :: famR df st' ns :: M, _, iter_list hh I fA _, ⟨o, st, j0, rfl⟩, H, ?_, ?_, ?_⟩
  · rintro i M0 s ⟨o, st', _, rfl⟩ H; exact has_seq H (Take.tail (Take.tail tk))
  · rintro i M0 v s hi ⟨o, st', hJ, rfl⟩ hv H
    rw [List.getElem?_map] at hv
    obtain ⟨k, hk', rfl⟩ := Option.map_eq_some_iff.mp hv
    have hkn := hps k (List.mem_of_getElem? hk')
    refine wpAny_assign_Name (stL H (Take.tail Take.head) (hu o _) (fun s2 H => ?_) hL hk hkx hcx)
    refine wpAny_execs_cons ?_
    refine wpAny_Expr ?_ hint (by rfl)
    refine callM ?_ rfl rfl hline
    refine nmL H Take.head (hx _) ?_ hL hk hkx hcx hdx
    refine dom_call B H (Take.tail (Take.tail Take.head)) hkn hn ?_ ok
    refine cwF ?_ hf
    refine PyProof.Rows.evalArgs_none ⟨rfl, B.x H, ?_⟩
    refine step i k st' _ s2 _ hk' hJ (H.sub (xs := famR df st' ns :: liR I fA (i + 1) :: frR L cs (lf (some (.ref (df k).d))) :: M) (Sub.take (Take.tail (Take.tail Take.head)) (Sub.take (Take.tail Take.head) (Sub.take Take.head Sub.refl)))) fun st'' s'' hJ' H => ?_
    show W _ _ _ _ _
    refine wpAny_execs_nil ?_
    exact ⟨_, ⟨_, st'', hJ', rfl⟩, H.sub (Sub.take (Take.tail Take.head) (Sub.take (Take.tail Take.head) Sub.refl))⟩
  · rintro M0 s ⟨o, st', hJ, rfl⟩ H
    rw [List.length_map] at hJ
    refine wpAny_execs_nil ?_
    exact q o st' s hJ H
end
end
section
section
variable {kvs : List (Int × Value)} {ns : List Int} {k v : Int} {x y : Value} {st st' : Int → DS} {S : Int} {l : List Int}
theorem va_none : valueAt kvs k = none ↔ ∀ p ∈ kvs, p.1 ≠ k := by
  unfold valueAt
  rw [Option.map_eq_none_iff, List.find?_eq_none]
  simp
theorem va_app (h : valueAt kvs v = none) : valueAt (kvs ++ [(v, x)]) k = if k = v then some x else valueAt kvs k := by
  unfold valueAt at *
  rw [List.find?_append]
  by_cases e : k = v
  · subst e
    rw [Option.map_eq_none_iff.mp h, if_pos rfl]
    simp
  · rw [if_neg e]
    have : List.find? (fun kv => decide (kv.1 = k)) [(v, x)] = none := by simp [Ne.symm e]
    rw [this, Option.or_none]
theorem va_self (h : valueAt kvs v = none) : valueAt (kvs ++ [(v, x)]) v = some x := by rw [va_app h, if_pos rfl]
theorem va_other (h : valueAt kvs v = none) (e : k ≠ v) : valueAt (kvs ++ [(v, x)]) k = valueAt kvs k := by rw [va_app h, if_neg e]
theorem stored_new (h : valueAt kvs v = none) : stored kvs v x = kvs ++ [(v, x)] := by
  unfold stored
  rw [if_neg]
  simp only [List.any_eq_true, decide_eq_true_eq, not_exists, not_and]
  exact fun p hp => va_none.mp h p hp
theorem map_store (h : ∀ p ∈ kvs, p.1 ≠ v) : (kvs.map fun kv => if kv.1 = v then (kv.1, x) else kv) = kvs := by
  induction kvs with
  | nil => rfl
  | cons a r ih =>
    rw [List.map_cons, if_neg (h a List.mem_cons_self), ih fun p hp => h p (List.mem_cons_of_mem _ hp)]
theorem stored_again (h : valueAt kvs v = none) : stored (kvs ++ [(v, y)]) v x = kvs ++ [(v, x)] := by
  unfold stored
  rw [if_pos (by simp), List.map_append, map_store (va_none.mp h)]
  simp
theorem without_app (h : valueAt kvs v = none) : without (kvs ++ [(v, x)]) v = kvs := by
  unfold without
  rw [List.filter_append]
  have h1 : kvs.filter (fun kv => decide (kv.1 ≠ v)) = kvs := List.filter_eq_self.mpr fun p hp => by simpa using va_none.mp h p hp
  rw [h1]; simp
/-- the sharings that complete what is assigned -/
def Comp (S : Int) (ns : List Int) (kvs : List (Int × Value)) (st : Int → DS) (l : List Int) : Prop :=
  ∃ f : Int → Int, l = ns.map f ∧ (∀ k ∈ ns, ∀ x, valueAt kvs k = some x → f k = intOf x) ∧ (∀ k ∈ ns, valueAt kvs k = none → f k ∈ (st k).xs.map intOf) ∧ (ns.map f).sum = S
theorem Comp.congr (h : ∀ k ∈ ns, valueAt kvs k = none → (st k).xs = (st' k).xs) : Comp S ns kvs st l ↔ Comp S ns kvs st' l := by
  constructor <;> rintro ⟨f, h1, h2, h3, h4⟩
  · exact ⟨f, h1, h2, fun k hk e => h k hk e ▸ h3 k hk e, h4⟩
  · exact ⟨f, h1, h2, fun k hk e => (h k hk e).symm ▸ h3 k hk e, h4⟩
/-- the values are not below nought -/
structure NonNeg (ns : List Int) (kvs : List (Int × Value)) (st : Int → DS) : Prop where
  asg : ∀ k ∈ ns, ∀ x, valueAt kvs k = some x → 0 ≤ intOf x
  dom : ∀ k ∈ ns, ∀ x ∈ (st k).xs, 0 ≤ intOf x
theorem sum_le {f g : Int → Int} : ∀ {ns : List Int}, (∀ k ∈ ns, f k ≤ g k) → (ns.map f).sum ≤ (ns.map g).sum
  | [], _ => Int.le_refl _
  | a :: r, h => by
    rw [List.map_cons, List.map_cons, List.sum_cons, List.sum_cons]
    exact Int.add_le_add (h a List.mem_cons_self) (sum_le fun k hk => h k (List.mem_cons_of_mem _ hk))
theorem sum_eq {f g : Int → Int} {ns : List Int} (h : ∀ k ∈ ns, f k = g k) : (ns.map f).sum = (ns.map g).sum := by rw [List.map_congr_left h]
theorem sum_ge_one {f : Int → Int} : ∀ {ns : List Int} {k : Int}, (∀ k ∈ ns, 0 ≤ f k) → k ∈ ns → f k ≤ (ns.map f).sum
  | a :: r, k, h, hk => by
    rw [List.map_cons, List.sum_cons]
    have h0 : 0 ≤ (r.map f).sum := by
      have := sum_le (f := fun _ => 0) (g := f) (ns := r) fun j hj => h j (List.mem_cons_of_mem _ hj)
      have e : (r.map fun _ => (0 : Int)).sum = 0 := by
        clear this h hk
        induction r with
        | nil => rfl
        | cons a r ih => rw [List.map_cons, List.sum_cons, ih]; rfl
      omega
    rcases List.mem_cons.mp hk with rfl | hk
    · omega
    · have := sum_ge_one (fun j hj => h j (List.mem_cons_of_mem _ hj)) hk
      have := h a List.mem_cons_self
      omega
/-- what is assigned, and one thing more, is not above the whole -/
theorem psum_one {f : Int → Int} (hf : ∀ k ∈ ns, 0 ≤ f k) (h2 : ∀ k ∈ ns, ∀ x, valueAt kvs k = some x → f k = intOf x) (hn : ns.Nodup) (hk : k ∈ ns) (hv : valueAt kvs k = none) : psum kvs ns + f k ≤ (ns.map f).sum := by
  induction ns with
  | nil => cases hk
  | cons a r ih =>
    rw [List.nodup_cons] at hn
    have hpr : psum kvs (a :: r) = vAt kvs a + psum kvs r := by unfold psum; rw [List.map_cons, List.sum_cons]
    rw [hpr, List.map_cons, List.sum_cons]
    have hva : ∀ j ∈ a :: r, vAt kvs j ≤ f j := fun j hj => by
      cases e : valueAt kvs j with
      | none => have h0 : vAt kvs j = 0 := by unfold vAt; rw [e]; rfl
                rw [h0]; exact hf j hj
      | some x => have h0 : vAt kvs j = intOf x := by unfold vAt; rw [e]; rfl
                  rw [h0, h2 j hj x e]; exact Int.le_refl _
    rcases List.mem_cons.mp hk with rfl | hk
    · have h0 : vAt kvs k = 0 := by unfold vAt; rw [hv]; rfl
      have : psum kvs r ≤ (r.map f).sum := sum_le fun j hj => hva j (List.mem_cons_of_mem _ hj)
      omega
    · have := ih (fun j hj => hf j (List.mem_cons_of_mem _ hj)) (fun j hj => h2 j (List.mem_cons_of_mem _ hj)) hn.2 hk
      have := hva a List.mem_cons_self
      omega
theorem psum_all {f : Int → Int} (hf : ∀ k ∈ ns, 0 ≤ f k) (h2 : ∀ k ∈ ns, ∀ x, valueAt kvs k = some x → f k = intOf x) : psum kvs ns ≤ (ns.map f).sum :=
  sum_le fun j hj => by
    cases e : valueAt kvs j with
    | none => have h0 : vAt kvs j = 0 := by unfold vAt; rw [e]; rfl
              rw [h0]; exact hf j hj
    | some x => have h0 : vAt kvs j = intOf x := by unfold vAt; rw [e]; rfl
                rw [h0, h2 j hj x e]; exact Int.le_refl _
theorem comp_nonneg {f : Int → Int} (hn : NonNeg ns kvs st) (h2 : ∀ k ∈ ns, ∀ x, valueAt kvs k = some x → f k = intOf x) (h3 : ∀ k ∈ ns, valueAt kvs k = none → f k ∈ (st k).xs.map intOf) : ∀ k ∈ ns, 0 ≤ f k := fun k hk => by
  cases e : valueAt kvs k with
  | some x => rw [h2 k hk x e]; exact hn.asg k hk x e
  | none => obtain ⟨y, hy, e'⟩ := List.mem_map.mp (h3 k hk e); rw [← e']; exact hn.dom k hk y hy
theorem mem_keep {c : Int} {d : DS} (o : OkD d) {x : Value} (hx : x ∈ d.xs) (h : intOf x ≤ c) : x ∈ keepD c d := by
  rw [keep_drop c d] at hx
  rcases List.mem_append.mp hx with hx | hx
  · exact hx
  · exact absurd (drop_gt o hx) (by omega)
/-- what the constraint's answer says of the sharings -/
theorem told_comp {fb r : Bool} (T : Told S kvs ns fb st st' r) (hn : NonNeg ns kvs st) (hnd : ns.Nodup) (hok : ∀ k ∈ ns, OkD (st k)) :
    (r = true → ∀ l, Comp S ns kvs st' l ↔ Comp S ns kvs st l) ∧ (r = false → ∀ l, ¬ Comp S ns kvs st l) := by
  cases fb with
  | false =>
    obtain ⟨rfl, hr⟩ := T.off rfl
    refine ⟨fun _ l => Iff.rfl, fun hf l ⟨f, h1, h2, h3, h4⟩ => ?_⟩
    have hf0 := comp_nonneg hn h2 h3
    have hp := psum_all hf0 h2
    rw [hf] at hr
    cases hm : miss kvs ns with
    | true =>
      rw [hm] at hr
      have : ¬ psum kvs ns ≤ S := by simpa using hr.symm
      omega
    | false =>
      rw [hm] at hr
      have hne : ¬ psum kvs ns = S := by simpa using hr.symm
      apply hne
      rw [← h4]
      refine sum_eq fun k hk => ?_
      unfold miss at hm
      rw [List.any_eq_false] at hm
      have hk' := hm k hk
      cases e : valueAt kvs k with
      | none => rw [e] at hk'; exact absurd rfl hk'
      | some x => rw [h2 k hk x e]; unfold vAt; rw [e]; rfl
  | true =>
    obtain ⟨D, rfl, hD, h1, h2⟩ := T.on rfl
    have back : ∀ f : Int → Int, (∀ k ∈ ns, ∀ x, valueAt kvs k = some x → f k = intOf x) → (∀ k ∈ ns, valueAt kvs k = none → f k ∈ (st k).xs.map intOf) → (ns.map f).sum = S →
        ∀ k ∈ ns, valueAt kvs k = none → f k ∈ (keepD (S - psum kvs ns) (st k)).map intOf := fun f g2 g3 g4 k hk hv => by
      obtain ⟨y, hy, e⟩ := List.mem_map.mp (g3 k hk hv)
      have := psum_one (comp_nonneg hn g2 g3) g2 hnd hk hv
      exact List.mem_map.mpr ⟨y, mem_keep (hok k hk) hy (by omega), e⟩
    refine ⟨fun _ l => ⟨fun ⟨f, g1, g2, g3, g4⟩ => ⟨f, g1, g2, fun k hk hv => ?_, g4⟩, fun ⟨f, g1, g2, g3, g4⟩ => ⟨f, g1, g2, fun k hk hv => ?_, g4⟩⟩, fun hf l ⟨f, g1, g2, g3, g4⟩ => ?_⟩
    · have := g3 k hk hv
      unfold stD at this
      split at this
      · obtain ⟨y, hy, e⟩ := List.mem_map.mp this
        exact List.mem_map.mpr ⟨y, by rw [keep_drop (S - psum kvs ns) (st k)]; exact List.mem_append_left _ hy, e⟩
      · exact this
    · unfold stD
      split
      · exact back f g2 g3 g4 k hk hv
      · exact g3 k hk hv
    · rcases h2 hf with h | ⟨k, hk, hv, he⟩
      · have := psum_all (comp_nonneg hn g2 g3) g2
        omega
      · have := back f g2 g3 g4 k hk hv
        rw [he] at this
        cases this
/-- one variable more -/
theorem comp_split (hk : v ∈ ns) (hv : valueAt kvs v = none) : Comp S ns kvs st l ↔ ∃ x ∈ (st v).xs, Comp S ns (kvs ++ [(v, x)]) st l := by
  constructor
  · rintro ⟨f, h1, h2, h3, h4⟩
    obtain ⟨x, hx, e⟩ := List.mem_map.mp (h3 v hk hv)
    refine ⟨x, hx, f, h1, fun k hk' y e' => ?_, fun k hk' e' => ?_, h4⟩
    · rw [va_app hv] at e'
      split at e'
      · rename_i q; cases e'; rw [q]; exact e.symm
      · exact h2 k hk' y e'
    · rw [va_app hv] at e'
      split at e'
      · cases e'
      · exact h3 k hk' e'
  · rintro ⟨x, hx, f, h1, h2, h3, h4⟩
    refine ⟨f, h1, fun k hk' y e' => h2 k hk' y ?_, fun k hk' e' => ?_, h4⟩
    · rw [va_other hv]; exact e'; rintro rfl; rw [hv] at e'; cases e'
    · by_cases e : k = v
      · subst e
        rw [h2 k hk' x (va_self hv)]
        exact List.mem_map_of_mem hx
      · exact h3 k hk' (by rw [va_other hv e]; exact e')
theorem comp_at (hk : v ∈ ns) (hv : valueAt kvs v = none) (h : Comp S ns (kvs ++ [(v, x)]) st l) (h' : Comp S ns (kvs ++ [(v, y)]) st l) : intOf x = intOf y := by
  obtain ⟨f, h1, h2, _⟩ := h
  obtain ⟨f', h1', h2', _⟩ := h'
  rw [← h2 v hk x (va_self hv), ← h2' v hk y (va_self hv)]
  exact (List.map_inj_left.mp (h1.symm.trans h1')) v hk
end
end
section
section
variable {w : World} {A : Around} {g : Heap} {z s s' : Shared} {M M' R : List Res} {env : Env} {p : Pb}
theorem ext_keeps {h' : Heap} (hx : Heap.ExtBut s.heap.objs.size s.heap h') : Keeps s { s with heap := h' } :=
  ⟨h', s.toks, rfl, fun b o e => hx b o (Nat.ne_of_lt (Heap.lt_size e)) e⟩
theorem asg_tup {elts : List Expr} {x1} {pos : Pos} {t : Addr} {vs : List Value} {n : Nat} {Q : Unit → Shared → Prop} (hh : A.handled = none) (H : Hs g z M s) (e : s.heap.get? t = some ⟨.type "tuple", none, .seq vs.toArray n, #[]⟩)
    (h : ∀ s', Hs g z M s' → W w A (assignInOrder ((assignEach elts env).map (·.2)) vs) Q s')
    (hn : (assignEach elts env).length = vs.length := by kernel_rfl) (hstar : (assignEach elts env).findIdx? (·.1) = none := by kernel_rfl) : W w A (assign (.Tuple elts x1 pos) env (.ref t)) Q s := by
  refine wpAny_assign_Tuple (items := vs.toArray) hh ⟨_, e, rfl, n, rfl⟩ (by simpa using hn) hstar fun h' hx => ?_
  have := h _ (H.keeps (ext_keeps hx))
  simpa using this
theorem tup_item {value slice : Expr} {pos : Pos} {Q : Value → Shared → Prop}
    (h : W w A (eval value env) (fun o s₁ => W w A (eval slice env) (fun i s₂ => ∃ a k u vs n j y, o = .ref a ∧ i = .int k u ∧ s₂.heap.get? a = some ⟨.type "tuple", none, .seq (vs : List Value).toArray n, #[]⟩ ∧ -2 ^ 63 ≤ k ∧ k < 2 ^ 63 ∧ seqIndex? k vs.length = some j ∧ vs[j]? = some y ∧ Q y s₂) s₁) s)
    (he : ∀ o i, subscripted slice false o i = operate [o, i] (getItem o i) := by intro _ _; rfl) : W w A (eval (.Subscript value slice pos) env) Q s := by
  refine sub_any (wpAny_mono h (fun o s₁ h₁ => wpAny_mono h₁ (fun i s₂ h₂ => ?_) fun _ _ f => f) fun _ _ f => f) he
  obtain ⟨a, k, u, vs, n, j, y, rfl, rfl, e, h1, h2, hk, hy, q⟩ := h₂
  unfold getitemInPython
  refine wpAny_bind (wpAny_specialOf (T := "tuple") ⟨_, e, rfl⟩ PySem.F.slot_tuple_getitem.lookup (wpAny_pure ⟨rfl, ?_⟩))
  exact PySem.P.getItem_tuple (n := n) (items := vs.toArray) e h1 h2 (by simpa using hk) (by simpa using hy) q
theorem lst_truthy {ax : Addr} {vs : List Value} {n : Nat} {Q : Bool → Shared → Prop} (e : s.heap.get? ax = some (listOf vs.toArray n)) (hsz : vs.length ≤ 1000) (q : ∀ n, Q (!vs.isEmpty) { s with toks := n }) : W w A (truthy (.ref ax)) Q s := by
  refine wpAny_truthy_list (items := vs.toArray) ⟨_, e, rfl, n, rfl⟩ (by simp; omega) ?_
  simpa using q _
/-- the attributes of a solver -/
theorem sv_fc {sv sd C : Addr} {fb b : Bool} {Q : Value → Shared → Prop} (B : Base w g) (H : Hs g z M s) (t : Take (iR sv C sd) M M') (t2 : Take (fcR sd fb) M R) (q : Hs g z M { s with toks := s.toks + 1 } → Q (.bool fb) { s with toks := s.toks + 1 }) (ok : attrOk w C "_forwardcheck" = true := by kernel_rfl) :
    W w A (getAttr (.ref sv) "_forwardcheck" b) Q s := by
  obtain ⟨_, e, h, u, n, rfl⟩ := H.get t2
  exact ga (v := .bool fb) (B.x H) (i_at H t) rfl rfl rfl e (by kernel_rfl) rfl (q (H.tok _)) ok
theorem sv_meth {sv sd C f : Addr} {fb : Bool} {name : Str} {pl : Sem Bool} {Q : Value × List Value → Shared → Prop} (B : Base w g) (H : Hs g z M s) (t : Take (iR sv C sd) M M') (t2 : Take (fcR sd fb) M R) (hn : ∀ h u v, getL name [⟨h, .str "_forwardcheck" u, v⟩] = some none)
    (q : Q (.ref f, [.ref sv]) s) (ok : methOk w C name f = true := by kernel_rfl) : W w A (getMethod (.ref sv) name pl) Q s := by
  obtain ⟨_, e, h, u, n, rfl⟩ := H.get t2
  exact gm (B.x H) (i_at H t) rfl rfl rfl e (hn ..) q ok
/-- pushdomains: a list, or None -/
def pdR (fb : Bool) (P : Addr) (vs : List Value) : Res := if fb = true then lR P vs else sR []
def pdV (fb : Bool) (P : Addr) : Value := if fb = true then .ref P else .none
theorem pd_truthy {fb : Bool} {P : Addr} {vs : List Value} {Q : Bool → Shared → Prop} (H : Hs g z M s) (t : Take (pdR fb P vs) M M') (hsz : vs.length ≤ 1000) (q : ∀ n, Q (fb && !vs.isEmpty) { s with toks := n }) : W w A (truthy (pdV fb P)) Q s := by
  cases fb with
  | false => exact truthy_none (q s.toks)
  | true =>
    obtain ⟨n, e⟩ := qR_at (H : Hs g z M s) (show Take (lR P vs) M M' from t)
    exact lst_truthy e hsz q
/-- a dict of ints' keys, of whatever age -/
def dX (w : World) (a : Addr) (kvs : List (Int × Value)) : Res := cR a fun o => (a == sysModules) = false ∧ ∃ ep es, o.ExactDict ∧ o.data = .dict es ep ∧ KeysOf (IK w) es ∧ Pairs (IK w) es.toList kvs ∧ (kvs.map (·.1)).Nodup
def solsR (w : World) (l : List (Addr × List (Int × Value))) : Res := sR (l.map fun q => dX w q.1 q.2)
theorem sols_nil (H : Hs g z M s) : Hs g z (solsR w [] :: M) s := Hs.shut (l := []) H
theorem sols_add {a : Addr} {kvs : List (Int × Value)} {ep : Nat} {l : List (Addr × List (Int × Value))} (H : Hs g z M s) (pk : Pick M [dR w a kvs ep, solsR w l] R) : Hs g z (solsR w (l ++ [(a, kvs)]) :: R) s := by
  have H : Hs g z (dR w a kvs ep :: solsR w l :: R) s := H.pick pk
  have H := H.imp (r' := dX w a kvs) (fun _ f => f) (fun ⟨o, e, hs, es, r⟩ => ⟨o, e, hs, ep, es, r⟩)
  have H1 := Hs.open_ (H.perm (List.Perm.swap _ _ _))
  refine Hs.shut (l := (l ++ [(a, kvs)]).map fun q => dX w q.1 q.2) ?_
  rw [List.map_append, List.append_assoc]
  exact H1
theorem sols_app {l1 l2 : List (Addr × List (Int × Value))} (H : Hs g z M s) (pk : Pick M [solsR w l1, solsR w l2] R) : Hs g z (solsR w (l1 ++ l2) :: R) s := by
  have H : Hs g z (solsR w l1 :: solsR w l2 :: R) s := H.pick pk
  have H1 := Hs.open_ H
  have H2 : Hs g z (solsR w l2 :: ((l1.map fun q => dX w q.1 q.2) ++ R)) s := H1.perm List.perm_middle.symm
  have H3 := Hs.open_ H2
  refine Hs.shut (l := (l1 ++ l2).map fun q => dX w q.1 q.2) (H3.perm ?_)
  rw [List.map_append, List.append_assoc, ← List.append_assoc, ← List.append_assoc]
  exact List.Perm.append_right _ List.perm_append_comm
/-- what a run of solutions tells -/
structure Sol (S : Int) (ns : List Int) (C : List Int → Prop) (new : List (Addr × List (Int × Value))) : Prop where
  nd : (new.map fun q => ns.map (vAt q.2)).Nodup
  ext : ∀ l, l ∈ (new.map fun q => ns.map (vAt q.2)) ↔ C l
  val : ∀ q ∈ new, ∀ k ∈ ns, ∃ v, valueAt q.2 k = some v ∧ isInt v = true
/-- the constraint is called -/
theorem cons_call {k : Nat} {c cd nA DA aA : Addr} {nm : List Value} {ns : List Int} {kvs dk : List (Int × Value)} {ep dep : Nat} {S : Int} {ts : Tok} {fc : Value} {fb : Bool} {df : Int → DA4} {st : Int → DS} {Q : Value → Shared → Prop} (hA : Ok (k + 9) A) (B : Base w g) (H : Hs g z M s)
    (pk : Pick M [iR c 463 cd, csR cd (.int S ts), lR nA nm, dR w aA kvs ep, dR w DA dk dep, famR df st ns] R) (hn : IntsAre nm ns) (hnd : ns.Nodup) (hall : allI kvs) (hl : ns.length ≤ 100)
    (hdk : ∀ k ∈ ns, valueAt dk k = some (.ref (df k).d)) (hok : ∀ k ∈ ns, OkD (st k))
    (hfc : ∀ (A' : Around) (s' : Shared) (Q : Bool → Shared → Prop), Hs g z R s' → (∀ n, Q fb { s' with toks := n }) → W w A' (truthy fc) Q s') (hm : fb = true → miss kvs ns = true)
    (q : ∀ r st' s', Told S kvs ns fb st st' r → Hs g z (iR c 463 cd :: csR cd (.int S ts) :: lR nA nm :: dR w aA kvs ep :: dR w DA dk dep :: famR df st' ns :: R) s' → Q (.bool r) s') :
    W w A (call (.ref c) [.ref nA, .ref DA, .ref aA, fc]) Q s := by
  have H : Hs g z (iR c 463 cd :: csR cd (.int S ts) :: lR nA nm :: dR w aA kvs ep :: dR w DA dk dep :: famR df st ns :: R) s := H.pick pk
  obtain ⟨oc, ec, hc⟩ := H.get (x := csR cd (.int S ts)) (by walk_at "m_take")
  have I : InstAt s.heap c (instObj 463 cd) 463 (some oc) := ⟨i_at H (x := c) (by walk_at "m_take"), rfl, rfl, ec⟩
  refine wpAny_call (kco_code (f := 460) (B.x H) I rfl (by kernel_rfl) (by kernel_rfl) (by kernel_rfl) ?_)
  exact fn_call (hA.le (j := k + 8) (by omega)) B H (by walk_at "m_pick") hn hnd hall hl hdk hok hfc hm q
theorem cons_with {c cd : Addr} {S : Value} {pos : Pos} {args : List (Bool × Sem Value)} {Q : Value → Shared → Prop} (hplain : args.any (·.1) = false)
    (h : W w A (evalArgs (.ref c) true args []) (fun a s₁ => a.kw = [] ∧ (∃ z M M' R, Hs g z M s₁ ∧ Take (iR c 463 cd) M M' ∧ Take (csR cd S) M R) ∧ W w A (call (.ref c) a.pos) Q s₁) s) (B : Base w g) : W w A (callWith pos (.ref c) [] args []) Q s := by
  unfold callWith
  refine wpAny_bind (wpAny_holding (wpAny_mono h (fun a s₁ h₁ => wpAny_bind (wpAny_standAt ?_)) fun _ _ y => y))
  obtain ⟨hkw, ⟨z, M, M', R, H, t1, t2⟩, h₂⟩ := h₁
  obtain ⟨oc, ec, hc⟩ := H.get t2
  have I : InstAt s₁.heap c (instObj 463 cd) 463 (some oc) := ⟨i_at H t1, rfl, rfl, ec⟩
  have L := kco_keeper (M := model pr w) I rfl
  simp only [hplain, List.any_nil, Bool.or_false]
  refine wpAny_bind (L.here ?_)
  rw [hkw]
  exact wpAny_bind (wpAny_mono (wpAny_operateT h₂) (fun r s₂ hr => wpAny_bind (wpAny_holding (wpAny_point (wpAny_pure hr)))) fun _ _ y => y)
end
end
section
section
variable {kvs : List (Int × Value)} {ns ps : List Int} {k v : Int} {x y : Value} {st st' st1 : Int → DS} {S : Int} {l : List Int}
theorem filt_ok {c : Int} {d : DS} (o : OkD d) : OkD (filt c d) := by
  have hx := keep_drop c d
  have hsub : (keepD c d).Sublist d.xs := List.takeWhile_sublist _
  refine ⟨fun v hv => o.int v (hsub.subset hv), List.Pairwise.sublist (hsub.map _) o.srt, ?_, o.lss⟩
  have h1 := o.len
  have h2 : d.xs.length = (keepD c d).length + (dropD c d).length := by rw [← List.length_append, ← hx]
  show (keepD c d).length + (d.hs ++ dropD c d).length ≤ 100
  rw [List.length_append]; omega
theorem count_less : ∀ {ns : List Int}, ns.Nodup → v ∈ ns → valueAt kvs v = none → (ns.filter fun k => (valueAt (kvs ++ [(v, x)]) k).isNone).length + 1 = (ns.filter fun k => (valueAt kvs k).isNone).length
  | a :: r, hn, hv, h => by
    rw [List.nodup_cons] at hn
    by_cases e : a = v
    · subst e
      have h1 : (r.filter fun k => (valueAt (kvs ++ [(a, x)]) k).isNone) = r.filter fun k => (valueAt kvs k).isNone := List.filter_congr fun k hk => by
        rw [va_other h]; rintro rfl; exact hn.1 hk
      rw [List.filter_cons, List.filter_cons, va_self h, h, h1]
      simp
    · have hv' : v ∈ r := (List.mem_cons.mp hv).resolve_left (Ne.symm e)
      have := count_less hn.2 hv' h
      rw [List.filter_cons, List.filter_cons, va_other h e]
      cases valueAt kvs a <;> simp [this] <;> omega
theorem sol_none {C : List Int → Prop} (h : ∀ l, ¬ C l) : Sol S ns C [] := ⟨List.nodup_nil, fun l => ⟨fun q => (by cases q), fun q => absurd q (h l)⟩, fun q hq => by cases hq⟩
theorem sol_app {C C1 C2 : List Int → Prop} {n1 n2 : List (Addr × List (Int × Value))} (h1 : Sol S ns C1 n1) (h2 : Sol S ns C2 n2) (hd : ∀ l, C1 l → C2 l → False) (hc : ∀ l, C l ↔ C1 l ∨ C2 l) : Sol S ns C (n1 ++ n2) := by
  refine ⟨?_, fun l => ?_, fun q hq => ?_⟩
  · rw [List.map_append, List.nodup_append]
    exact ⟨h1.nd, h2.nd, fun a ha b hb e => hd a ((h1.ext a).mp ha) ((h2.ext a).mp (e ▸ hb))⟩
  · rw [List.map_append, List.mem_append, h1.ext, h2.ext, hc]
  · rcases List.mem_append.mp hq with hq | hq
    · exact h1.val q hq
    · exact h2.val q hq
/-- what a push has done -/
structure Pushed (fb : Bool) (ps : List Int) (st st1 : Int → DS) : Prop where
  on : fb = true → ∀ k ∈ ps, ∃ t, st1 k = pushD (st k) t
  off : ∀ k, ¬ (fb = true ∧ k ∈ ps) → st1 k = st k
theorem Pushed.xs {fb : Bool} (h : Pushed fb ps st st1) (k : Int) : (st1 k).xs = (st k).xs := by
  by_cases e : fb = true ∧ k ∈ ps
  · obtain ⟨t, q⟩ := h.on e.1 k e.2; rw [q]; rfl
  · rw [h.off k e]
theorem Pushed.ok {fb : Bool} {u : Nat} (h : Pushed fb ps st st1) {k : Int} (r : Room (st k) (u + 1)) : Room (st1 k) u := by
  have h1 := r.ok
  have h2 := r.ss
  by_cases e : fb = true ∧ k ∈ ps
  · obtain ⟨t, q⟩ := h.on e.1 k e.2
    rw [q]
    refine ⟨⟨h1.int, h1.srt, h1.len, ?_⟩, ?_⟩
    · show ((st k).ss ++ [_]).length ≤ 100
      rw [List.length_append, List.length_singleton]; omega
    · show ((st k).ss ++ [_]).length + u ≤ 100
      rw [List.length_append, List.length_singleton]; omega
  · rw [h.off k e]; exact ⟨h1, by omega⟩
/-- what a pop finds -/
theorem popable {c : Int} {d : DS} {t : Tok} (b : Bool) : ∃ xs bs, (if b = true then filt c (pushD d t) else pushD d t) = ⟨xs, d.hs ++ bs, d.ss ++ [.int ((xs.length : Int) + bs.length) t]⟩ ∧ xs ++ bs = d.xs := by
  cases b with
  | true =>
    refine ⟨keepD c d, dropD c d, ?_, (keep_drop c d).symm⟩
    have h2 : d.xs.length = (keepD c d).length + (dropD c d).length := by rw [← List.length_append, ← keep_drop c d]
    rw [if_pos rfl]
    show (⟨keepD c d, d.hs ++ dropD c d, d.ss ++ [.int d.xs.length t]⟩ : DS) = _
    rw [h2]; rfl
  | false =>
    refine ⟨d.xs, [], ?_, List.append_nil _⟩
    rw [if_neg (by decide)]
    show (⟨d.xs, d.hs, d.ss ++ [.int d.xs.length t]⟩ : DS) = _
    simp
/-- after the constraint's answer -/
structure After (fb : Bool) (ps : List Int) (st st2 : Int → DS) (c : Int) : Prop where
  on : fb = true → ∀ k ∈ ps, ∃ t b, st2 k = (if b = true then filt c (pushD (st k) t) else pushD (st k) t)
  off : ∀ k, ¬ (fb = true ∧ k ∈ ps) → st2 k = st k
theorem after_told {fb fb' r : Bool} {st2 : Int → DS} (hP : Pushed fb ps st st1) (T : Told S kvs ns fb' st1 st2 r) (hfb : fb' = true → fb = true) (hps : ∀ k ∈ ns, valueAt kvs k = none → k ∈ ps) : After fb ps st st2 (S - psum kvs ns) := by
  cases h' : fb' with
  | false =>
    subst h'
    obtain ⟨rfl, _⟩ := T.off rfl
    exact ⟨fun h k hk => let ⟨t, q⟩ := hP.on h k hk; ⟨t, false, q⟩, hP.off⟩
  | true =>
    subst h'
    obtain ⟨D, rfl, hD, _⟩ := T.on rfl
    have hb := hfb rfl
    refine ⟨fun h k hk => ?_, fun k hk => ?_⟩
    · obtain ⟨t, q⟩ := hP.on h k hk
      exact ⟨t, D k, by unfold stD; rw [q]⟩
    · have : D k = false := by
        cases e : D k with
        | false => rfl
        | true => obtain ⟨h1, h2⟩ := hD k e; exact absurd ⟨hb, hps k h1 h2⟩ hk
      unfold stD
      rw [this, if_neg (by decide)]
      exact hP.off k hk
theorem told_room {fb r : Bool} {st2 : Int → DS} {u : Nat} (T : Told S kvs ns fb st1 st2 r) {k : Int} (h : Room (st1 k) u) : Room (st2 k) u ∧ (st2 k).xs.length ≤ (st1 k).xs.length ∧ (∀ x ∈ (st2 k).xs, x ∈ (st1 k).xs) := by
  cases hfb : fb with
  | false => obtain ⟨rfl, _⟩ := T.off hfb; exact ⟨h, Nat.le_refl _, fun _ q => q⟩
  | true =>
    obtain ⟨D, rfl, _⟩ := T.on hfb
    unfold stD
    have hsub : (keepD (S - psum kvs ns) (st1 k)).Sublist (st1 k).xs := List.takeWhile_sublist _
    split
    · exact ⟨⟨filt_ok h.ok, h.ss⟩, hsub.length_le, fun _ q => hsub.subset q⟩
    · exact ⟨h, Nat.le_refl _, fun _ q => q⟩
theorem told_end {fb : Bool} {st2 : Int → DS} (T : Told S kvs ns fb st1 st2 true) (hm : fb = true → miss kvs ns = true) (h : miss kvs ns = false) : psum kvs ns = S := by
  cases hfb : fb with
  | true => rw [hm hfb] at h; cases h
  | false =>
    obtain ⟨_, e⟩ := T.off hfb
    rw [h] at e
    simpa using e.symm
theorem allI_app (h : allI kvs) (hv : valueAt kvs v = none) (hx : isInt x = true) : allI (kvs ++ [(v, x)]) := fun k y e => by
  rw [va_app hv] at e
  split at e
  · cases e; exact hx
  · exact h k y e
end
end
section
section
variable {w : World} {g : Heap} {z : Shared} {p : Pb}
theorem dk_at (p : Pb) {i : Nat} {k : Int} {x : Value} (h : p.dk[i]? = some (k, x)) : p.ns[i]? = some k := by
  unfold Pb.dk at h
  rw [List.getElem?_map] at h
  obtain ⟨k', e, h⟩ := Option.map_eq_some_iff.mp h
  cases h; exact e
theorem filter_snoc {q : Int → Bool} {ns : List Int} {i : Nat} {k : Int} (h : ns[i]? = some k) : (ns.take (i + 1)).filter q = (ns.take i).filter q ++ (if q k = true then [k] else []) := by
  rw [List.take_add_one, h, List.filter_append]
  cases hq : q k <;> simp [hq]
theorem not_mem_take {ps : List Int} {j : Nat} {k : Int} (hn : ps.Nodup) (h : ps[j]? = some k) : k ∉ ps.take j := by
  intro hin
  obtain ⟨i, hi, e⟩ := List.mem_iff_getElem.mp hin
  rw [List.length_take] at hi
  rw [List.getElem_take] at e
  obtain ⟨hj, e'⟩ := List.getElem?_eq_some_iff.mp h
  exact (List.pairwise_iff_getElem.mp hn) i j (by omega) hj (by omega) (e.trans e'.symm)
theorem miss_of {kvs : List (Int × Value)} {ns : List Int} {k : Int} (hk : k ∈ ns) (h : valueAt kvs k = none) : miss kvs ns = true := by
  unfold miss
  rw [List.any_eq_true]
  exact ⟨k, hk, by rw [h]; rfl⟩
theorem rec_step {sv sd solA aA : Addr} {fb : Bool} (B : Base w g) (hp : p.Ok) (u : Nat) (ih : ∀ u', u = u' + 1 → ∀ {A : Around} {s : Shared} {R : List Res} {sols : List Value} {kvs : List (Int × Value)} {ep : Nat} {st : Int → DS} {Q : Value → Shared → Prop}, Ok (40 * u' + 30) A →
    Hs g z (iR sv 278 sd :: fcR sd fb :: iR p.c 463 p.cd :: csR p.cd (.int p.S p.ts) :: lR p.nA p.nm :: dR w p.DA p.dk p.dep :: dR w p.VA p.vk p.vep :: vcsR p :: famR p.df st p.ns :: dR w aA kvs ep :: lR solA sols :: R) s →
    (p.ns.filter fun k => (valueAt kvs k).isNone).length = u' → allI kvs → kvs.length + u' ≤ 100 → (∀ k ∈ p.ns, Room (st k) u') → (∀ k ∈ p.ns, (st k).xs.length ≤ 2) → NonNeg p.ns kvs st → (miss kvs p.ns = false → psum kvs p.ns = p.S) → sols.length + 2 ^ u' ≤ 1000 →
    (∀ new ep' s', Sol p.S p.ns (Comp p.S p.ns kvs st) new → new.length ≤ 2 ^ u' → Hs g z (iR sv 278 sd :: fcR sd fb :: iR p.c 463 p.cd :: csR p.cd (.int p.S p.ts) :: lR p.nA p.nm :: dR w p.DA p.dk p.dep :: dR w p.VA p.vk p.vep :: vcsR p :: famR p.df st p.ns :: dR w aA kvs ep' :: lR solA (sols ++ new.map fun q => .ref q.1) :: solsR w new :: R) s' → Q (.ref solA) s') →
    W w A (call (.ref 261) [.ref sv, .ref solA, .ref p.DA, .ref p.VA, .ref aA, .bool false]) Q s)
    {A : Around} {s : Shared} {R : List Res} {sols : List Value} {kvs : List (Int × Value)} {ep : Nat} {st : Int → DS} {Q : Value → Shared → Prop} (hA : Ok (40 * u + 30) A)
    (H : Hs g z (iR sv 278 sd :: fcR sd fb :: iR p.c 463 p.cd :: csR p.cd (.int p.S p.ts) :: lR p.nA p.nm :: dR w p.DA p.dk p.dep :: dR w p.VA p.vk p.vep :: vcsR p :: famR p.df st p.ns :: dR w aA kvs ep :: lR solA sols :: R) s)
    (hu : (p.ns.filter fun k => (valueAt kvs k).isNone).length = u) (hall : allI kvs) (hkl : kvs.length + u ≤ 100) (hroom : ∀ k ∈ p.ns, Room (st k) u) (hx2 : ∀ k ∈ p.ns, (st k).xs.length ≤ 2) (hnn : NonNeg p.ns kvs st) (hend : miss kvs p.ns = false → psum kvs p.ns = p.S) (hsl : sols.length + 2 ^ u ≤ 1000)
    (q : ∀ new ep' s', Sol p.S p.ns (Comp p.S p.ns kvs st) new → new.length ≤ 2 ^ u → Hs g z (iR sv 278 sd :: fcR sd fb :: iR p.c 463 p.cd :: csR p.cd (.int p.S p.ts) :: lR p.nA p.nm :: dR w p.DA p.dk p.dep :: dR w p.VA p.vk p.vep :: vcsR p :: famR p.df st p.ns :: dR w aA kvs ep' :: lR solA (sols ++ new.map fun q => .ref q.1) :: solsR w new :: R) s' → Q (.ref solA) s') :
    W w A (call (.ref 261) [.ref sv, .ref solA, .ref p.DA, .ref p.VA, .ref aA, .bool false]) Q s := by
  have hsz : sizeLine = 2 ^ 24 := rfl
  have hl2 := hp.l2
  have hl4 := hp.l4
  have hok : ∀ k ∈ p.ns, OkD (st k) := fun k hk => (hroom k hk).ok
  have hb : BindsTo s (fdOf w 261) ⟨[.ref sv, .ref solA, .ref p.DA, .ref p.VA, .ref aA, .bool false], []⟩ [("self", .ref sv), ("solutions", .ref solA), ("domains", .ref p.DA), ("vconstraints", .ref p.VA), ("assignments", .ref aA), ("single", .bool false)] := BindsTo.of_eq (by kernel_rfl)
  refine call_fn (k := 40 * u + 29) (l := [("self", some (.ref sv)), ("solutions", some (.ref solA)), ("domains", some (.ref p.DA)), ("vconstraints", some (.ref p.VA)), ("assignments", some (.ref aA)), ("single", some (.bool false)), ("lst", none), ("item", none), ("variable", none), ("forwardcheck", none), ("pushdomains", none), ("value", none), ("domain", none), ("constraint", none), ("variables", none)]) hA B H hb ?_
  intro L s' H hA'
  with_unfolding_all refine wpAny_execs_cons ?_
  refine asg_comp_ ["variable"] ?_
  refine nmC (L := L) (by assumption) (by walk_at "m_take") (by walk_at "m_mem") ?_
  refine d_iter H (by walk_at "m_take") fun I s1 H => ?_
  have hlen : p.dk.length = p.ns.length := by unfold Pb.dk; simp
  refine ⟨g, z, p.dk.length, _, _, _, fun i ys M => ∃ l : List (Addr × List Value), Tups (p.ns.take i) l ∧ l.length = i ∧ ys = l.map (fun q => .ref q.1) ∧
    M = tupsR l :: frR L (cellsOf w 261 L) [("self", some (.ref sv)), ("solutions", some (.ref solA)), ("domains", some (.ref p.DA)), ("vconstraints", some (.ref p.VA)), ("assignments", some (.ref aA)), ("single", some (.bool false)), ("lst", none), ("item", none), ("variable", none), ("forwardcheck", none), ("pushdomains", none), ("value", none), ("domain", none), ("constraint", none), ("variables", none)] ::
      iR sv 278 sd :: fcR sd fb :: iR p.c 463 p.cd :: csR p.cd (.int p.S p.ts) :: lR p.nA p.nm :: dR w p.DA p.dk p.dep :: dR w p.VA p.vk p.vep :: vcsR p :: famR p.df st p.ns :: dR w aA kvs ep :: lR solA sols :: R, _, iter_dict (a := p.DA) (ep := p.dep) hA'.hd I,
    ⟨[], ⟨fun _ h => (by cases h), fun _ h => (by simp at h)⟩, rfl, rfl, rfl⟩, (tups_nil H).sub (by walk_at "m_sub"), by rw [hlen]; omega, ?_, ?_, ?_, ?_⟩
  · rintro i ys M s ⟨l, _, _, _, rfl⟩ H; exact (dR_at (a := p.DA) H (by walk_at "m_take")).1
  · rintro i ys M ⟨l, _, e, rfl, rfl⟩; simp [e]
  · rintro C D l0 i ys M v s hl hi ⟨l, hT, hll, rfl, rfl⟩ ⟨k, x, t, hk, rfl⟩ H
    obtain ⟨o0, rfl⟩ := one_name hl
    have hkn := dk_at p hk
    have hkm : k ∈ p.ns := List.mem_of_getElem? hkn
    have hok' := (hok k hkm).len
    refine wpAny_assign_Name ?_
    refine stL H (by walk_at "m_take") (by walk_at "m_upl") fun s2 H => ?_
    refine wpAny_tests_nil ?_
    rw [if_pos rfl]
    refine tuple_ ?_
    refine wpAny_items_cons ?_
    refine wpAny_UnaryOp ?_
    refine Call_Name1 ?_
    refine nmB (v := .builtin "len") B H ?_
    refine cw1 ?_
    refine sub_dict ?_
    refine nmC (L := L) (by assumption) (by walk_at "m_take") (by walk_at "m_mem") ?_
    refine nmL (by assumption) (by walk_at "m_take") (by walk_at "m_mem") ?_
    refine ⟨g, z, _, _, p.VA, p.vk, p.vep, k, t, _, rfl, rfl, H, (by walk_at "m_take"), vAt_map hkm, fun s3 H => ?_⟩
    obtain ⟨⟨n4, e4⟩, _⟩ := vc_at (p := p) H (by walk_at "m_take") hkm
    refine len_list H e4 (by simp; omega) fun t4 s4 H => ?_
    refine neg_ H fun t5 s5 H => ?_
    refine wpAny_items_cons ?_
    refine Call_Name1 ?_
    refine nmB (v := .builtin "len") B H ?_
    refine cw1 ?_
    refine sub_dict ?_
    refine nmC (L := L) (by assumption) (by walk_at "m_take") (by walk_at "m_mem") ?_
    refine nmL (by assumption) (by walk_at "m_take") (by walk_at "m_mem") ?_
    refine ⟨g, z, _, _, p.DA, p.dk, p.dep, k, t, _, rfl, rfl, H, (by walk_at "m_take"), vAt_map hkm, fun s6 H => ?_⟩
    obtain ⟨n7, e7⟩ := fam_at (df := p.df) (st := st) (ns := p.ns) H (by walk_at "m_take") hkm
    refine own_len (B.x H) e7 (by omega) ?_
    have H := H.tok (s6.toks + 1 + 1)
    refine wpAny_items_cons ?_
    refine nmL (by assumption) (by walk_at "m_take") (by walk_at "m_mem") ?_
    refine wpAny_items_nil ?_
    refine ⟨g, z, _, H, by simp; omega, fun a s8 H => ?_⟩
    have htk : p.ns.take (i + 1) = p.ns.take i ++ [k] := by rw [List.take_add_one, hkn]; rfl
    refine ⟨[("variable", some (.int k t))], _, rfl, ⟨l ++ [(a, [.int (-(([Value.ref (p.vt k)].length : Nat) : Int)) t5, .int ((st k).xs.length : Nat) (s6.toks + 1), .int k t])], by rw [htk]; exact hT.snoc (x := a) (t := t) rfl rfl, by simp [hll], by simp, rfl⟩, ?_⟩
    have H := tups_add (a := a) (l := l) (vs := [.int (-(([Value.ref (p.vt k)].length : Nat) : Int)) t5, .int ((st k).xs.length : Nat) (s6.toks + 1), .int k t]) H (by walk_at "m_pick")
    exact H.sub (by walk_at "m_sub")
  · rintro C l0 D ys M s ⟨l, hT, hll, rfl, rfl⟩ H
    rw [hlen, List.take_length] at hT
    rw [hlen] at hll
    refine stL (L := L) H (by walk_at "m_take") (by walk_at "m_upl") fun s9 H => ?_
    refine ⟨_, H.sub (xs := frR C [] l0 :: _) (by walk_at "m_sub"), fun s10 H => ?_⟩
    show W _ _ _ _ _
    refine wpAny_execs_cons ?_
    refine wpAny_Expr ?_ (by kernel_rfl) (by kernel_rfl)
    refine callM ?_
    refine nmL (by assumption) (by walk_at "m_take") (by walk_at "m_mem") ?_
    refine lst_meth H (by walk_at "m_take") slot_list_sort PySem.F.type_list_sort ?_
    refine sort_tups (l := l) H (by walk_at "m_take") (by walk_at "m_take") (by omega) (by omega) (fun r hr => ?_) fun ws s11 hws hwl H => ?_
    · obtain ⟨a, b, k, t, e, h1, h2, _⟩ := hT.shape r hr
      rw [e]
      refine ⟨by simp, fun x hx => ?_⟩
      simp only [List.mem_cons, List.not_mem_nil, or_false] at hx
      rcases hx with rfl | rfl | rfl
      · exact h1
      · exact h2
      · rfl
    show W _ _ _ _ _
    refine wpAny_execs_cons ?_
    refine for_ ?_
    refine nmL (by assumption) (by walk_at "m_take") (by walk_at "m_mem") ?_
    refine l_iter H (by walk_at "m_take") fun I s12 H => ?_
    refine ⟨g, z, ws.length, _, _, _, fun i M => ∃ ov, (∀ j, j < i → ∀ r ∈ l, ws[j]? = some (.ref r.1) → ∀ a b k t, r.2 = [a, b, .int k t] → valueAt kvs k ≠ none) ∧
      M = frR L (cellsOf w 261 L) [("self", some (.ref sv)), ("solutions", some (.ref solA)), ("domains", some (.ref p.DA)), ("vconstraints", some (.ref p.VA)), ("assignments", some (.ref aA)), ("single", some (.bool false)), ("lst", some (.ref D)), ("item", ov), ("variable", none), ("forwardcheck", none), ("pushdomains", none), ("value", none), ("domain", none), ("constraint", none), ("variables", none)] :: lR D ws :: tupsR l :: iR sv 278 sd :: fcR sd fb :: iR p.c 463 p.cd :: csR p.cd (.int p.S p.ts) :: lR p.nA p.nm :: dR w p.DA p.dk p.dep :: dR w p.VA p.vk p.vep :: vcsR p :: famR p.df st p.ns :: dR w aA kvs ep :: lR solA sols :: R, _, iter_list hA'.hd I D ws, ⟨none, fun j hj => absurd hj (Nat.not_lt_zero _), rfl⟩, H.sub (by walk_at "m_sub"), ?_, ?_, ?_⟩
    · rintro i M s ⟨ov, _, rfl⟩ H; exact has_seq (a := D) H (by walk_at "m_take")
    · rintro i M v s hi ⟨ov, hj, rfl⟩ hv H
      obtain ⟨r, hr, rfl⟩ := (hws v).mp (List.mem_of_getElem? hv)
      obtain ⟨a1, b1, v, tv, er, _, _, hvn⟩ := hT.shape r hr
      refine wpAny_assign_Name ?_
      refine stL H (by walk_at "m_take") (by walk_at "m_upl") fun s13 H => ?_
      have htup : ∀ {M s}, Hs g z M s → (∃ M', Take (tupsR l) M M') → ∃ n, s.heap.get? r.1 = some ⟨.type "tuple", none, .seq [a1, b1, .int v tv].toArray n, #[]⟩ := fun {M s} H ⟨M', t⟩ => by
        have := tup_at H t hr; rwa [er] at this
      refine wpAny_execs_cons ?_
      refine wpAny_If (wpAny_isTrue_Compare1 ?_)
      refine tup_item ?_
      refine nmL (by assumption) (by walk_at "m_take") (by walk_at "m_mem") ?_
      refine wpAny_UnaryOp (con_ H fun t14 s14 H => neg_ H fun t15 s15 H => ?_)
      obtain ⟨n15, e15⟩ := htup H ⟨_, (by walk_at "m_take")⟩
      refine ⟨r.1, -1, t15, _, n15, 2, .int v tv, rfl, rfl, e15, by decide, by decide, by kernel_rfl, rfl, ?_⟩
      refine nmC (L := L) (by assumption) (by walk_at "m_take") (by walk_at "m_mem") ?_
      refine d_notin H (by walk_at "m_take") fun s16 H => ?_
      refine wpAny_truthy_bool ?_
      cases hva : valueAt kvs v with
      | some y =>
        rw [Option.isSome_some, if_neg (by decide)]
        refine wpAny_execs_nil ?_
        show W _ _ _ _ _
        refine wpAny_execs_nil ?_
        refine ⟨_, ⟨some (.ref r.1), fun j hj' r' hr' e' a b k t hs => ?_, rfl⟩, H.sub (by walk_at "m_sub")⟩
        rcases Nat.lt_or_eq_of_le (Nat.le_of_lt_succ hj') with h | rfl
        · exact hj j h r' hr' e' a b k t hs
        · rw [hv] at e'
          have e1 : r.1 = r'.1 := by injection (Option.some.inj e')
          have h2 := tup_at H (by walk_at "m_take" : Take (tupsR l) _ _) hr'
          obtain ⟨n2, e2⟩ := h2
          obtain ⟨n3, e3⟩ := htup H ⟨_, (by walk_at "m_take")⟩
          rw [← e1, e3, hs] at e2
          have : v = k := by
            have := congrArg (fun o : Option Obj => match o with | some ⟨_, _, .seq a _, _⟩ => a.toList | _ => []) e2
            simp at this
            exact this.2.2.1
          rw [← this, hva]; exact fun h => nomatch h
      | none =>
        rw [Option.isSome_none, if_pos (by rfl)]
        refine wpAny_execs_cons ?_
        refine wpAny_Break ?_
        show W _ _ _ _ _
        obtain ⟨u', rfl⟩ : ∃ u', u = u' + 1 := ⟨u - 1, by have := count_less (x := .none) hp.nd hvn hva; omega⟩
        have hcl : ∀ x, (p.ns.filter fun k => (valueAt (kvs ++ [(v, x)]) k).isNone).length = u' := fun x => by have := count_less (x := x) hp.nd hvn hva; omega
        have ih := @ih u' rfl
        refine wpAny_execs_cons ?_
        refine wpAny_Assign_Name ?_ (by kernel_rfl)
        refine tup_item ?_
        refine nmL (by assumption) (by walk_at "m_take") (by walk_at "m_mem") ?_
        refine wpAny_UnaryOp (con_ H fun t17 s17 H => neg_ H fun t18 s18 H => ?_)
        obtain ⟨n18, e18⟩ := htup H ⟨_, (by walk_at "m_take")⟩
        refine ⟨r.1, -1, t18, _, n18, 2, .int v tv, rfl, rfl, e18, by decide, by decide, by kernel_rfl, rfl, ?_⟩
        refine stL H (by walk_at "m_take") (by walk_at "m_upl") fun s19 H => ?_
        show W _ _ _ _ _
        refine wpAny_execs_cons ?_
        refine wpAny_Assign_Subscript ?_ (by kernel_rfl)
        refine wpAny_Constant_none ?_
        refine nmC (L := L) (by assumption) (by walk_at "m_take") (by walk_at "m_mem") ?_
        refine nmL (by assumption) (by walk_at "m_take") (by walk_at "m_mem") ?_
        refine d_set H (by walk_at "m_take") (by omega) fun ep1 s20 H => ?_
        rw [stored_new hva] at H
        show W _ _ _ _ _
        refine wpAny_execs_cons ?_
        refine wpAny_Assign_Name ?_ (by kernel_rfl)
        refine eAttr ?_
        refine nmL (by assumption) (by walk_at "m_take") (by walk_at "m_mem") ?_
        refine sv_fc B H (by walk_at "m_take") (by walk_at "m_take") fun H => ?_
        refine stL H (by walk_at "m_take") (by walk_at "m_upl") fun s21 H => ?_
        show W _ _ _ _ _
        refine wpAny_execs_cons ?_
        generalize hps : (p.ns.filter fun k => (valueAt (kvs ++ [(v, .none)]) k).isNone) = ps at *
        have hpsn : ∀ k ∈ ps, k ∈ p.ns := fun k hk => by rw [← hps] at hk; exact (List.mem_filter.mp hk).1
        have hpnd : ps.Nodup := by rw [← hps]; exact hp.nd.filter _
        have hpslen : ps.length ≤ 4 := by rw [← hps]; exact Nat.le_trans (List.length_filter_le _ _) hl4
        have hpsmem : ∀ x : Value, ∀ k ∈ p.ns, valueAt (kvs ++ [(v, x)]) k = none → k ∈ ps := fun x k hk hv => by
          rw [← hps]
          refine List.mem_filter.mpr ⟨hk, ?_⟩
          by_cases e : k = v
          · rw [e, va_self hva] at hv; cases hv
          · rw [va_other hva e] at hv ⊢; rw [hv]; rfl
        have hpsun : ∀ x : Value, ∀ k ∈ ps, valueAt (kvs ++ [(v, x)]) k = none := fun x k hk => by
          rw [← hps] at hk
          obtain ⟨_, h⟩ := List.mem_filter.mp hk
          rw [Option.isNone_iff_eq_none] at h
          by_cases e : k = v
          · rw [e, va_self hva] at h; cases h
          · rw [va_other hva e] at h ⊢; exact h
        refine wpAny_mono (Q := fun f s => f = .next ∧ ∃ P, Hs g z (frR L (cellsOf w 261 L) [("self", some (.ref sv)), ("solutions", some (.ref solA)), ("domains", some (.ref p.DA)), ("vconstraints", some (.ref p.VA)), ("assignments", some (.ref aA)), ("single", some (.bool false)), ("lst", some (.ref D)), ("item", some (.ref r.1)), ("variable", some (.int v tv)), ("forwardcheck", some (.bool fb)), ("pushdomains", some (pdV fb P)), ("value", none), ("domain", none), ("constraint", none), ("variables", none)] :: pdR fb P (ps.map fun k => .ref (p.df k).d) :: lR D ws :: tupsR l :: iR sv 278 sd :: fcR sd fb :: iR p.c 463 p.cd :: csR p.cd (.int p.S p.ts) :: lR p.nA p.nm :: dR w p.DA p.dk p.dep :: dR w p.VA p.vk p.vep :: vcsR p :: famR p.df st p.ns :: dR w aA (kvs ++ [(v, .none)]) ep1 :: lR solA sols :: R) s) ?_ (fun f s h => ?_) fun _ _ f => f
        · refine wpAny_If (isTrue_plain ?_)
          refine nmL (by assumption) (by walk_at "m_take") (by walk_at "m_mem") ?_
          refine wpAny_truthy_bool ?_
          rcases Bool.eq_false_or_eq_true fb with hfb | hfb
          · rw [if_pos hfb]
            refine wpAny_execs_cons ?_
            refine asg_comp_ ["x"] ?_
            refine nmC (L := L) (by assumption) (by walk_at "m_take") (by walk_at "m_mem") ?_
            refine d_iter H (by walk_at "m_take") fun I2 s22 H => ?_
            refine ⟨g, z, p.dk.length, _, _, _, fun i ys M => ys = ((p.ns.take i).filter fun k => (valueAt (kvs ++ [(v, .none)]) k).isNone).map (fun k => .ref (p.df k).d) ∧
              M = frR L (cellsOf w 261 L) [("self", some (.ref sv)), ("solutions", some (.ref solA)), ("domains", some (.ref p.DA)), ("vconstraints", some (.ref p.VA)), ("assignments", some (.ref aA)), ("single", some (.bool false)), ("lst", some (.ref D)), ("item", some (.ref r.1)), ("variable", some (.int v tv)), ("forwardcheck", some (.bool fb)), ("pushdomains", none), ("value", none), ("domain", none), ("constraint", none), ("variables", none)] :: lR D ws :: tupsR l :: iR sv 278 sd :: fcR sd fb :: iR p.c 463 p.cd :: csR p.cd (.int p.S p.ts) :: lR p.nA p.nm :: dR w p.DA p.dk p.dep :: dR w p.VA p.vk p.vep :: vcsR p :: famR p.df st p.ns :: dR w aA (kvs ++ [(v, .none)]) ep1 :: lR solA sols :: R, _, iter_dict (a := p.DA) (ep := p.dep) hA'.hd I2,
              ⟨by simp, rfl⟩, H.sub (by walk_at "m_sub"), by rw [hlen]; omega, ?_, ?_, ?_, ?_⟩
            · rintro i ys M s ⟨_, rfl⟩ H; exact (dR_at (a := p.DA) H (by walk_at "m_take")).1
            · rintro i ys M ⟨rfl, rfl⟩
              rw [List.length_map]
              exact Nat.le_trans (List.length_filter_le _ _) (by rw [List.length_take]; omega)
            · rintro C D2 l2 i ys M v2 s hl hi ⟨rfl, rfl⟩ ⟨k, x, t, hk, rfl⟩ H
              obtain ⟨o0, rfl⟩ := one_name hl
              have hkn := dk_at p hk
              have hkm : k ∈ p.ns := List.mem_of_getElem? hkn
              refine wpAny_assign_Name ?_
              refine stL H (by walk_at "m_take") (by walk_at "m_upl") fun s23 H => ?_
              refine wpAny_tests_one ?_
              refine wpAny_isTrue_Compare1 ?_
              refine nmL (by assumption) (by walk_at "m_take") (by walk_at "m_mem") ?_
              refine nmC (L := L) (by assumption) (by walk_at "m_take") (by walk_at "m_mem") ?_
              refine d_notin H (by walk_at "m_take") fun s24 H => ?_
              refine wpAny_truthy_bool ?_
              cases hvk : valueAt (kvs ++ [(v, .none)]) k with
              | some y =>
                rw [Option.isSome_some, if_neg (by decide)]
                refine ⟨_, _, rfl, ⟨by rw [filter_snoc hkn, hvk]; simp, rfl⟩, H⟩
              | none =>
                rw [Option.isSome_none, if_pos (by rfl)]
                refine sub_dict ?_
                refine nmC (L := L) (by assumption) (by walk_at "m_take") (by walk_at "m_mem") ?_
                refine nmL (by assumption) (by walk_at "m_take") (by walk_at "m_mem") ?_
                refine ⟨g, z, _, _, p.DA, p.dk, p.dep, k, t, _, rfl, rfl, H, (by walk_at "m_take"), vAt_map hkm, fun s25 H => ?_⟩
                refine ⟨_, _, rfl, ⟨by rw [filter_snoc hkn, hvk]; simp, rfl⟩, H⟩
            · rintro C l2 D2 ys M s ⟨rfl, rfl⟩ H
              rw [hlen, List.take_length, hps] at H
              refine stL (L := L) H (by walk_at "m_take") (by walk_at "m_upl") fun s26 H => ?_
              refine ⟨_, H.sub (xs := frR C [] l2 :: _) (by walk_at "m_sub"), fun s27 H => ?_⟩
              show W _ _ _ _ _
              refine wpAny_execs_nil ?_
              refine ⟨rfl, D2, ?_⟩
              rw [hfb] at H ⊢
              exact H.sub (by unfold pdR pdV; rw [if_pos rfl, if_pos rfl]; walk_at "m_sub")
          · rw [if_neg (by rw [hfb]; decide)]
            refine wpAny_execs_cons ?_
            refine wpAny_Assign_Name ?_ (by kernel_rfl)
            refine wpAny_Constant_none ?_
            refine stL H (by walk_at "m_take") (by walk_at "m_upl") fun s22 H => ?_
            show W _ _ _ _ _
            refine wpAny_execs_nil ?_
            refine ⟨rfl, 0, ?_⟩
            have H : Hs g z (sR [] :: _) s22 := Hs.shut (l := []) H
            rw [hfb] at H ⊢
            exact H.sub (by unfold pdR pdV; rw [if_neg (by decide), if_neg (by decide)]; walk_at "m_sub")
        obtain ⟨rfl, P, H⟩ := h
        show W _ _ _ _ _
        refine wpAny_execs_cons ?_
        refine for_ ?_
        refine sub_dict ?_
        refine nmC (L := L) (by assumption) (by walk_at "m_take") (by walk_at "m_mem") ?_
        refine nmL (by assumption) (by walk_at "m_take") (by walk_at "m_mem") ?_
        refine ⟨g, z, _, _, p.DA, p.dk, p.dep, v, tv, _, rfl, rfl, H, (by walk_at "m_take"), vAt_map hvn, fun s30 H => ?_⟩
        obtain ⟨n30, e30⟩ := fam_at (df := p.df) (st := st) (ns := p.ns) H (by walk_at "m_take") hvn
        refine own_iter (B.x H) e30 ?_
        have H : Hs g z (liR s30.heap.objs.size (p.df v).d 0 :: _) _ := new_obj (o := { cls := .type "list_iterator", data := .fields #[.ref (p.df v).d, .int 0 0] }) H ⟨rfl, rfl⟩ rfl s30.toks
        generalize s30.heap.objs.size = I5 at H ⊢
        refine ⟨g, z, (st v).xs.length, _, _, _, fun i M => ∃ new y ov od oc ovs cep, Sol p.S p.ns (fun l => ∃ x ∈ (st v).xs.take i, Comp p.S p.ns (kvs ++ [(v, x)]) st l) new ∧ new.length ≤ i * 2 ^ u' ∧
          M = frR L (cellsOf w 261 L) [("self", some (.ref sv)), ("solutions", some (.ref solA)), ("domains", some (.ref p.DA)), ("vconstraints", some (.ref p.VA)), ("assignments", some (.ref aA)), ("single", some (.bool false)), ("lst", some (.ref D)), ("item", some (.ref r.1)), ("variable", some (.int v tv)), ("forwardcheck", some (.bool fb)), ("pushdomains", some (pdV fb P)), ("value", ov), ("domain", od), ("constraint", oc), ("variables", ovs)] :: solsR w new :: pdR fb P (ps.map fun k => Value.ref (p.df k).d) :: lR D ws :: tupsR l :: iR sv 278 sd :: fcR sd fb :: iR p.c 463 p.cd :: csR p.cd (.int p.S p.ts) :: lR p.nA p.nm :: dR w p.DA p.dk p.dep :: dR w p.VA p.vk p.vep :: vcsR p :: famR p.df st p.ns :: dR w aA (kvs ++ [(v, y)]) cep :: lR solA (sols ++ new.map fun q => .ref q.1) :: R, _, iter_list hA'.hd I5 (p.df v).d _,
          ⟨[], .none, none, none, none, none, ep1, sol_none (fun l ⟨x, hx, _⟩ => by simp at hx), by simp, rfl⟩, ?_, ?_, ?_, ?_⟩
        · rw [List.map_nil, List.append_nil]
          exact (sols_nil (w := w) H).sub (by walk_at "m_sub")
        · rintro i M s ⟨new, y, ov, od, oc, ovs, cep, _, _, rfl⟩ H
          obtain ⟨n, e⟩ := fam_at (df := p.df) (st := st) (ns := p.ns) H (by walk_at "m_take") hvn
          exact ⟨_, _, n, e⟩
        · rintro i M x s hi ⟨new, y, ov, od, oc, ovs, cep, hS, hnl, rfl⟩ hx H
          have hxm : x ∈ (st v).xs := List.mem_of_getElem? hx
          have hxi : isInt x = true := (hok v hvn).int x hxm
          have hx2v := hx2 v hvn
          have hnew : new.length ≤ 2 ^ u' := by
            have : i ≤ 1 := by omega
            calc new.length ≤ i * 2 ^ u' := hnl
              _ ≤ 1 * 2 ^ u' := Nat.mul_le_mul_right _ this
              _ = 2 ^ u' := Nat.one_mul _
          have hpow2 : 2 ^ (u' + 1) = 2 ^ u' + 2 ^ u' := by rw [Nat.pow_succ]; omega
          refine wpAny_assign_Name ?_
          refine stL H (by walk_at "m_take") (by walk_at "m_upl") fun s31 H => ?_
          refine wpAny_execs_cons ?_
          refine wpAny_Assign_Subscript ?_ (by kernel_rfl)
          refine nmL (by assumption) (by walk_at "m_take") (by walk_at "m_mem") ?_
          refine nmC (L := L) (by assumption) (by walk_at "m_take") (by walk_at "m_mem") ?_
          refine nmL (by assumption) (by walk_at "m_take") (by walk_at "m_mem") ?_
          refine d_set H (by walk_at "m_take") (by simp; omega) fun ep2 s32 H => ?_
          rw [stored_again hva] at H
          show W _ _ _ _ _
          refine wpAny_execs_cons ?_
          refine wpAny_mono (Q := fun f s => f = .next ∧ ∃ st1 od, Pushed fb ps st st1 ∧ Hs g z (liR I5 (p.df v).d (i + 1) :: frR L (cellsOf w 261 L) [("self", some (.ref sv)), ("solutions", some (.ref solA)), ("domains", some (.ref p.DA)), ("vconstraints", some (.ref p.VA)), ("assignments", some (.ref aA)), ("single", some (.bool false)), ("lst", some (.ref D)), ("item", some (.ref r.1)), ("variable", some (.int v tv)), ("forwardcheck", some (.bool fb)), ("pushdomains", some (pdV fb P)), ("value", some x), ("domain", od), ("constraint", oc), ("variables", ovs)] :: solsR w new :: pdR fb P (ps.map fun k => Value.ref (p.df k).d) :: lR D ws :: tupsR l :: iR sv 278 sd :: fcR sd fb :: iR p.c 463 p.cd :: csR p.cd (.int p.S p.ts) :: lR p.nA p.nm :: dR w p.DA p.dk p.dep :: dR w p.VA p.vk p.vep :: vcsR p :: famR p.df st1 p.ns :: dR w aA (kvs ++ [(v, x)]) ep2 :: lR solA (sols ++ new.map fun q => .ref q.1) :: R) s) ?_ (fun f s h => ?_) fun _ _ f => f
          · refine wpAny_If (isTrue_plain ?_)
            refine nmL (by assumption) (by walk_at "m_take") (by walk_at "m_mem") ?_
            refine pd_truthy H (by walk_at "m_take") (by simp; omega) fun n => ?_
            have H := H.tok n
            by_cases hpe : (fb && !(ps.map fun k => Value.ref (p.df k).d).isEmpty) = true
            · rw [if_pos hpe]
              have hfb : fb = true := by cases fb <;> simp_all
              have hpv : pdV fb P = .ref P := by rw [hfb]; rfl
              have hpr : pdR fb P (ps.map fun k => Value.ref (p.df k).d) = lR P (ps.map fun k => Value.ref (p.df k).d) := by rw [hfb]; rfl
              rw [hpv, hpr] at H
              rw [hpv, hpr]
              refine wpAny_execs_cons ?_
              refine loop_dom (L := L) (cs := cellsOf w 261 L) (lf := fun o => [("self", some (.ref sv)), ("solutions", some (.ref solA)), ("domains", some (.ref p.DA)), ("vconstraints", some (.ref p.VA)), ("assignments", some (.ref aA)), ("single", some (.bool false)), ("lst", some (.ref D)), ("item", some (.ref r.1)), ("variable", some (.int v tv)), ("forwardcheck", some (.bool fb)), ("pushdomains", some (.ref P)), ("value", some x), ("domain", o), ("constraint", oc), ("variables", ovs)]) (f := 339) (ps := ps) (fA := P) (st := st) (o := od) (ns := p.ns) (df := p.df)
                (fun i st' => (∀ k ∈ ps.take i, ∃ t, st' k = pushD (st k) t) ∧ ∀ k, k ∉ ps.take i → st' k = st k) hA'.hd B (H.sub (by walk_at "m_sub")) (by walk_at "m_take") hpsn ⟨fun k hk => by simp at hk, fun k _ => rfl⟩
                (fun o v => (by walk_at "m_upl")) (fun v => (by walk_at "m_mem")) (fun o => (by walk_at "m_mem")) rfl (by kernel_rfl) (by kernel_rfl) (by kernel_rfl) (by kernel_rfl) (by kernel_rfl) (by kernel_rfl) (by kernel_rfl) (by intros; kernel_rfl) (by kernel_rfl) (by kernel_rfl) (by kernel_rfl) rfl ?_ ?_
              · rintro j k st' N s' Q' hk ⟨h1, h2⟩ H q'
                have hkn := hpsn k (List.mem_of_getElem? hk)
                have hkt := not_mem_take hpnd hk
                have e := h2 k hkt
                have ho := (hroom k hkn).ok
                have hol := ho.len
                have hos := ho.lss
                refine fam_push (hA'.le (by omega)) B H Take.head hp.nd hkn (by rw [e]; omega) (by rw [e]; omega) fun t s'' H => q' _ s'' ⟨fun k' hk' => ?_, fun k' hk' => ?_⟩ H
                · rw [List.take_add_one, hk] at hk'
                  by_cases ek : k' = k
                  · subst ek; exact ⟨t, by unfold upd; rw [if_pos rfl, e]⟩
                  · obtain ⟨t', e'⟩ := h1 k' ((List.mem_append.mp hk').resolve_right (by simpa using ek))
                    exact ⟨t', by unfold upd; rw [if_neg ek, e']⟩
                · rw [List.take_add_one, hk] at hk'
                  have ek : k' ≠ k := by rintro rfl; exact hk' (by simp)
                  unfold upd; rw [if_neg ek]
                  exact h2 k' fun h => hk' (List.mem_append_left _ h)
              · rintro o st' s' ⟨h1, h2⟩ H
                rw [List.take_length] at h1 h2
                show W _ _ _ _ _
                refine wpAny_execs_nil ?_
                refine ⟨rfl, st', o, ⟨fun _ => h1, fun k hk => h2 k fun h => hk ⟨hfb, h⟩⟩, H.sub (by walk_at "m_sub")⟩
            · rw [if_neg hpe]
              refine wpAny_execs_nil ?_
              refine ⟨rfl, st, od, ⟨fun hfb k hk => ?_, fun _ _ => rfl⟩, H.sub (by walk_at "m_sub")⟩
              rw [hfb] at hpe
              cases ps with
              | nil => cases hk
              | cons a r => simp at hpe
          obtain ⟨rfl, st1, od, hP, H⟩ := h
          show W _ _ _ _ _
          refine wpAny_execs_cons ?_
          have hnnx : NonNeg p.ns (kvs ++ [(v, x)]) st1 := ⟨fun k hk y e => by
            rw [va_app hva] at e
            split at e
            · cases e; exact hnn.dom v hvn x hxm
            · exact hnn.asg k hk y e, fun k hk y hy => hnn.dom k hk y (by rw [← hP.xs k]; exact hy)⟩
          have hcong : ∀ l, Comp p.S p.ns (kvs ++ [(v, x)]) st1 l ↔ Comp p.S p.ns (kvs ++ [(v, x)]) st l := fun l => Comp.congr fun k _ _ => hP.xs k
          have hokp : ∀ k ∈ p.ns, OkD (st1 k) := fun k hk => (hP.ok (hroom k hk)).ok
          have hm2 : (fb && !(ps.map fun k => Value.ref (p.df k).d).isEmpty) = true → miss (kvs ++ [(v, x)]) p.ns = true := fun h => by
            cases hpp : ps with
            | nil => rw [hpp] at h; simp at h
            | cons a r => exact miss_of (hpsn a (by rw [hpp]; exact List.mem_cons_self)) (hpsun x a (by rw [hpp]; exact List.mem_cons_self))
          refine wpAny_mono (Q := fun f s => f = .next ∧ ∃ st2 n2 oc ovs ep3, After fb ps st st2 (p.S - psum (kvs ++ [(v, x)]) p.ns) ∧ Sol p.S p.ns (Comp p.S p.ns (kvs ++ [(v, x)]) st) n2 ∧ n2.length ≤ 2 ^ u' ∧
              Hs g z (liR I5 (p.df v).d (i + 1) :: frR L (cellsOf w 261 L) [("self", some (.ref sv)), ("solutions", some (.ref solA)), ("domains", some (.ref p.DA)), ("vconstraints", some (.ref p.VA)), ("assignments", some (.ref aA)), ("single", some (.bool false)), ("lst", some (.ref D)), ("item", some (.ref r.1)), ("variable", some (.int v tv)), ("forwardcheck", some (.bool fb)), ("pushdomains", some (pdV fb P)), ("value", some x), ("domain", od), ("constraint", oc), ("variables", ovs)] :: solsR w n2 :: solsR w new :: pdR fb P (ps.map fun k => Value.ref (p.df k).d) :: lR D ws :: tupsR l :: iR sv 278 sd :: fcR sd fb :: iR p.c 463 p.cd :: csR p.cd (.int p.S p.ts) :: lR p.nA p.nm :: dR w p.DA p.dk p.dep :: dR w p.VA p.vk p.vep :: vcsR p :: famR p.df st2 p.ns :: dR w aA (kvs ++ [(v, x)]) ep3 :: lR solA ((sols ++ new.map fun q => .ref q.1) ++ n2.map fun q => .ref q.1) :: R) s) ?_ (fun f s h => ?_) fun _ _ f => f
          · refine for_ ?_
            refine sub_dict ?_
            refine nmC (L := L) (by assumption) (by walk_at "m_take") (by walk_at "m_mem") ?_
            refine nmL (by assumption) (by walk_at "m_take") (by walk_at "m_mem") ?_
            refine ⟨g, z, _, _, p.VA, p.vk, p.vep, v, tv, _, rfl, rfl, H, (by walk_at "m_take"), vAt_map hvn, fun s34 H => ?_⟩
            obtain ⟨⟨n34, e34⟩, _⟩ := vc_at (p := p) H (by walk_at "m_take") hvn
            refine wpAny_pyIter_list (items := [Value.ref (p.vt v)].toArray) ⟨_, e34, rfl, n34, rfl⟩ ?_
            have H : Hs g z (liR s34.heap.objs.size (p.vl v) 0 :: _) _ := new_obj (o := { cls := .type "list_iterator", data := .fields #[.ref (p.vl v), .int 0 0] }) H ⟨rfl, rfl⟩ rfl s34.toks
            generalize s34.heap.objs.size = I6 at H ⊢
            refine ⟨g, z, 1, _, _, _, fun j M => (j = 0 ∧ M = liR I5 (p.df v).d (i + 1) :: frR L (cellsOf w 261 L) [("self", some (.ref sv)), ("solutions", some (.ref solA)), ("domains", some (.ref p.DA)), ("vconstraints", some (.ref p.VA)), ("assignments", some (.ref aA)), ("single", some (.bool false)), ("lst", some (.ref D)), ("item", some (.ref r.1)), ("variable", some (.int v tv)), ("forwardcheck", some (.bool fb)), ("pushdomains", some (pdV fb P)), ("value", some x), ("domain", od), ("constraint", oc), ("variables", ovs)] :: solsR w new :: pdR fb P (ps.map fun k => Value.ref (p.df k).d) :: lR D ws :: tupsR l :: iR sv 278 sd :: fcR sd fb :: iR p.c 463 p.cd :: csR p.cd (.int p.S p.ts) :: lR p.nA p.nm :: dR w p.DA p.dk p.dep :: dR w p.VA p.vk p.vep :: vcsR p :: famR p.df st1 p.ns :: dR w aA (kvs ++ [(v, x)]) ep2 :: lR solA (sols ++ new.map fun q => .ref q.1) :: R) ∨
              (j = 1 ∧ ∃ st2, Told p.S (kvs ++ [(v, x)]) p.ns (fb && !(ps.map fun k => Value.ref (p.df k).d).isEmpty) st1 st2 true ∧ M = liR I5 (p.df v).d (i + 1) :: frR L (cellsOf w 261 L) [("self", some (.ref sv)), ("solutions", some (.ref solA)), ("domains", some (.ref p.DA)), ("vconstraints", some (.ref p.VA)), ("assignments", some (.ref aA)), ("single", some (.bool false)), ("lst", some (.ref D)), ("item", some (.ref r.1)), ("variable", some (.int v tv)), ("forwardcheck", some (.bool fb)), ("pushdomains", some (pdV fb P)), ("value", some x), ("domain", od), ("constraint", some (.ref p.c)), ("variables", some (.ref p.nA))] :: solsR w new :: pdR fb P (ps.map fun k => Value.ref (p.df k).d) :: lR D ws :: tupsR l :: iR sv 278 sd :: fcR sd fb :: iR p.c 463 p.cd :: csR p.cd (.int p.S p.ts) :: lR p.nA p.nm :: dR w p.DA p.dk p.dep :: dR w p.VA p.vk p.vep :: vcsR p :: famR p.df st2 p.ns :: dR w aA (kvs ++ [(v, x)]) ep2 :: lR solA (sols ++ new.map fun q => .ref q.1) :: R), _, iter_list hA'.hd I6 (p.vl v) [.ref (p.vt v)], .inl ⟨rfl, rfl⟩, H.sub (by walk_at "m_sub"), ?_, ?_, ?_⟩
            · rintro j M s (⟨_, rfl⟩ | ⟨_, st2, _, rfl⟩) H
              · obtain ⟨⟨n, e⟩, _⟩ := vc_at (p := p) H (by walk_at "m_take") hvn; exact ⟨_, _, n, e⟩
              · obtain ⟨⟨n, e⟩, _⟩ := vc_at (p := p) H (by walk_at "m_take") hvn; exact ⟨_, _, n, e⟩
            · rintro j M y s hj (⟨rfl, rfl⟩ | ⟨rfl, _⟩) hy H
              · cases hy
                obtain ⟨_, n35, e35⟩ := vc_at (p := p) H (by walk_at "m_take") hvn
                refine asg_tup hA'.hd H e35 fun s36 H => ?_
                refine wpAny_assignInOrder_more (wpAny_assign_Name ?_)
                refine stL H (by walk_at "m_take") (by walk_at "m_upl") fun s37 H => ?_
                refine wpAny_assignInOrder_more (wpAny_assign_Name ?_)
                refine stL H (by walk_at "m_take") (by walk_at "m_upl") fun s38 H => ?_
                refine wpAny_assignInOrder_none ?_
                refine wpAny_execs_cons ?_
                refine wpAny_If (isTrue_not (isTrue_plain (Call_ ?_)))
                refine nmL (by assumption) (by walk_at "m_take") (by walk_at "m_mem") ?_
                refine cons_with (cd := p.cd) (S := .int p.S p.ts) rfl ?_ B
                refine evalArgs_plain (spliced_cons ?_)
                refine nmL (by assumption) (by walk_at "m_take") (by walk_at "m_mem") ?_
                refine spliced_cons ?_
                refine nmC (L := L) (by assumption) (by walk_at "m_take") (by walk_at "m_mem") ?_
                refine spliced_cons ?_
                refine nmC (L := L) (by assumption) (by walk_at "m_take") (by walk_at "m_mem") ?_
                refine spliced_cons ?_
                refine nmL (by assumption) (by walk_at "m_take") (by walk_at "m_mem") ?_
                refine spliced_nil ?_
                refine ⟨rfl, ⟨z, _, _, _, H, (by walk_at "m_take"), (by walk_at "m_take")⟩, ?_⟩
                have hfc : ∀ (A' : Around) (s' : Shared) (Q : Bool → Shared → Prop), Hs g z (frR L (cellsOf w 261 L) [("self", some (.ref sv)), ("solutions", some (.ref solA)), ("domains", some (.ref p.DA)), ("vconstraints", some (.ref p.VA)), ("assignments", some (.ref aA)), ("single", some (.bool false)), ("lst", some (.ref D)), ("item", some (.ref r.1)), ("variable", some (.int v tv)), ("forwardcheck", some (.bool fb)), ("pushdomains", some (pdV fb P)), ("value", some x), ("domain", od), ("constraint", some (.ref p.c)), ("variables", some (.ref p.nA))] :: liR I6 (p.vl v) (0 + 1) :: liR I5 (p.df v).d (i + 1) :: solsR w new :: pdR fb P (ps.map fun k => Value.ref (p.df k).d) :: lR D ws :: tupsR l :: iR sv 278 sd :: fcR sd fb :: dR w p.VA p.vk p.vep :: vcsR p :: lR solA (sols ++ new.map fun q => .ref q.1) :: R) s' → (∀ n, Q (fb && !(ps.map fun k => Value.ref (p.df k).d).isEmpty) { s' with toks := n }) → W w A' (truthy (pdV fb P)) Q s' := fun A' s' Q H q => pd_truthy H (by walk_at "m_take") (by simp; omega) q
                have hcall := fun Q => cons_call (Q := Q) (k := 10) (c := p.c) (cd := p.cd) (nA := p.nA) (DA := p.DA) (aA := aA) (nm := p.nm) (ns := p.ns) (kvs := (kvs ++ [(v, x)])) (dk := p.dk) (ep := ep2) (dep := p.dep) (S := p.S) (ts := p.ts) (fc := pdV fb P) (fb := (fb && !(ps.map fun k => Value.ref (p.df k).d).isEmpty)) (df := p.df) (st := st1) (A := A.deeper (callEnvC (fdOf w 261) L 261)) (hA'.le (by omega)) B H (by walk_at "m_pick") hp.nm hp.nd (allI_app hall hva hxi) (by omega) (fun k hk => vAt_map hk) hokp hfc hm2
                refine hcall _ fun r st2 s39 T H => ?_
                refine wpAny_truthy_bool ?_
                have hc := told_comp T hnnx hp.nd hokp
                have hAf := after_told hP T (by intro h; simp at h; exact h.1) (hpsmem x)
                cases r with
                | false =>
                  rw [if_pos (by rfl)]
                  refine wpAny_execs_cons ?_
                  refine wpAny_Break ?_
                  refine ⟨rfl, st2, [], some (.ref p.c), some (.ref p.nA), ep2, hAf, sol_none fun l h => hc.2 rfl l ((hcong l).mpr h), by simp, ?_⟩
                  rw [List.map_nil, List.append_nil]
                  exact (sols_nil (w := w) H).sub (by walk_at "m_sub")
                | true =>
                  rw [if_neg (by decide)]
                  refine wpAny_execs_nil ?_
                  show W _ _ _ _ _
                  refine wpAny_execs_nil ?_
                  exact ⟨_, .inr ⟨rfl, st2, T, rfl⟩, H.sub (by walk_at "m_sub")⟩
              · omega
            · rintro M s (⟨h, _⟩ | ⟨_, st2, T, rfl⟩) H
              · cases h
              have hc := told_comp T hnnx hp.nd hokp
              have hAf := after_told hP T (by intro h; simp at h; exact h.1) (hpsmem x)
              have hcl := count_less (x := x) hp.nd hvn hva
              refine wpAny_execs_cons ?_
              refine wpAny_Expr_any ?_ (by kernel_rfl) (by kernel_rfl)
              refine callM ?_
              refine nmL (by assumption) (by walk_at "m_take") (by walk_at "m_mem") ?_
              refine sv_meth (f := 261) B H (by walk_at "m_take") (by walk_at "m_take") (by intros; kernel_rfl) ?_
              refine cwF ?_
              refine evalArgs_plain (spliced_cons ?_)
              refine nmL (by assumption) (by walk_at "m_take") (by walk_at "m_mem") ?_
              refine spliced_cons ?_
              refine nmC (L := L) (by assumption) (by walk_at "m_take") (by walk_at "m_mem") ?_
              refine spliced_cons ?_
              refine nmC (L := L) (by assumption) (by walk_at "m_take") (by walk_at "m_mem") ?_
              refine spliced_cons ?_
              refine nmC (L := L) (by assumption) (by walk_at "m_take") (by walk_at "m_mem") ?_
              refine spliced_cons ?_
              refine nmL (by assumption) (by walk_at "m_take") (by walk_at "m_mem") ?_
              refine spliced_nil ?_
              refine ⟨rfl, B.x H, ?_⟩
              refine ih (R := liR I5 (p.df v).d (i + 1) :: frR L (cellsOf w 261 L) [("self", some (.ref sv)), ("solutions", some (.ref solA)), ("domains", some (.ref p.DA)), ("vconstraints", some (.ref p.VA)), ("assignments", some (.ref aA)), ("single", some (.bool false)), ("lst", some (.ref D)), ("item", some (.ref r.1)), ("variable", some (.int v tv)), ("forwardcheck", some (.bool fb)), ("pushdomains", some (pdV fb P)), ("value", some x), ("domain", od), ("constraint", some (.ref p.c)), ("variables", some (.ref p.nA))] :: solsR w new :: pdR fb P (ps.map fun k => Value.ref (p.df k).d) :: lR D ws :: tupsR l :: R) (hA'.le (by omega)) (H.sub (by walk_at "m_sub")) (by omega) (allI_app hall hva hxi) (by simp; omega) (fun k hk => (told_room T (hP.ok (hroom k hk))).1)
                (fun k hk => Nat.le_trans (told_room T (hP.ok (hroom k hk))).2.1 (by rw [hP.xs]; exact hx2 k hk)) ⟨hnnx.asg, fun k hk y hy => hnnx.dom k hk y ((told_room T (hP.ok (hroom k hk))).2.2 y hy)⟩ (told_end T hm2) (by simp; omega) fun n2 ep3 s41 hS2 hn2 H => ?_
              show W _ _ _ _ _
              refine wpAny_execs_cons ?_
              refine wpAny_If (isTrue_and (isTrue_plain ?_))
              refine nmL (by assumption) (by walk_at "m_take") (by walk_at "m_mem") ?_
              obtain ⟨n42, e42⟩ := qR_at (a := solA) H (by walk_at "m_take")
              refine lst_truthy e42 (by simp; omega) fun n43 => ?_
              have H := H.tok n43
              have hfin : ∀ s, Hs g z (liR I5 (p.df v).d (i + 1) :: frR L (cellsOf w 261 L) [("self", some (.ref sv)), ("solutions", some (.ref solA)), ("domains", some (.ref p.DA)), ("vconstraints", some (.ref p.VA)), ("assignments", some (.ref aA)), ("single", some (.bool false)), ("lst", some (.ref D)), ("item", some (.ref r.1)), ("variable", some (.int v tv)), ("forwardcheck", some (.bool fb)), ("pushdomains", some (pdV fb P)), ("value", some x), ("domain", od), ("constraint", some (.ref p.c)), ("variables", some (.ref p.nA))] :: solsR w n2 :: solsR w new :: pdR fb P (ps.map fun k => Value.ref (p.df k).d) :: lR D ws :: tupsR l :: iR sv 278 sd :: fcR sd fb :: iR p.c 463 p.cd :: csR p.cd (.int p.S p.ts) :: lR p.nA p.nm :: dR w p.DA p.dk p.dep :: dR w p.VA p.vk p.vep :: vcsR p :: famR p.df st2 p.ns :: dR w aA (kvs ++ [(v, x)]) ep3 :: lR solA ((sols ++ new.map fun q => .ref q.1) ++ n2.map fun q => .ref q.1) :: R) s → ∃ st2 n2 oc ovs ep3, After fb ps st st2 (p.S - psum (kvs ++ [(v, x)]) p.ns) ∧ Sol p.S p.ns (Comp p.S p.ns (kvs ++ [(v, x)]) st) n2 ∧ n2.length ≤ 2 ^ u' ∧
                Hs g z (liR I5 (p.df v).d (i + 1) :: frR L (cellsOf w 261 L) [("self", some (.ref sv)), ("solutions", some (.ref solA)), ("domains", some (.ref p.DA)), ("vconstraints", some (.ref p.VA)), ("assignments", some (.ref aA)), ("single", some (.bool false)), ("lst", some (.ref D)), ("item", some (.ref r.1)), ("variable", some (.int v tv)), ("forwardcheck", some (.bool fb)), ("pushdomains", some (pdV fb P)), ("value", some x), ("domain", od), ("constraint", oc), ("variables", ovs)] :: solsR w n2 :: solsR w new :: pdR fb P (ps.map fun k => Value.ref (p.df k).d) :: lR D ws :: tupsR l :: iR sv 278 sd :: fcR sd fb :: iR p.c 463 p.cd :: csR p.cd (.int p.S p.ts) :: lR p.nA p.nm :: dR w p.DA p.dk p.dep :: dR w p.VA p.vk p.vep :: vcsR p :: famR p.df st2 p.ns :: dR w aA (kvs ++ [(v, x)]) ep3 :: lR solA ((sols ++ new.map fun q => .ref q.1) ++ n2.map fun q => .ref q.1) :: R) s := fun s H =>
                ⟨st2, n2, some (.ref p.c), some (.ref p.nA), ep3, hAf, ⟨hS2.nd, fun l => (hS2.ext l).trans ((hc.1 rfl l).trans (hcong l)), hS2.val⟩, hn2, H⟩
              split
              · refine isTrue_and (isTrue_plain ?_)
                refine nmL (by assumption) (by walk_at "m_take") (by walk_at "m_mem") ?_
                refine wpAny_truthy_bool ?_
                rw [if_neg (by decide), if_neg (by decide)]
                refine wpAny_execs_nil ?_
                show W _ _ _ _ _
                refine wpAny_execs_nil ?_
                exact ⟨rfl, hfin _ (H.sub (by walk_at "m_sub"))⟩
              · rw [if_neg (by decide)]
                refine wpAny_execs_nil ?_
                show W _ _ _ _ _
                refine wpAny_execs_nil ?_
                exact ⟨rfl, hfin _ (H.sub (by walk_at "m_sub"))⟩
          obtain ⟨rfl, st2, n2, oc2, ovs2, ep3, hAf, hS2, hn2, H⟩ := h
          show W _ _ _ _ _
          refine wpAny_execs_cons ?_
          refine wpAny_mono (Q := fun f s => f = .next ∧ ∃ od, Hs g z (liR I5 (p.df v).d (i + 1) :: frR L (cellsOf w 261 L) [("self", some (.ref sv)), ("solutions", some (.ref solA)), ("domains", some (.ref p.DA)), ("vconstraints", some (.ref p.VA)), ("assignments", some (.ref aA)), ("single", some (.bool false)), ("lst", some (.ref D)), ("item", some (.ref r.1)), ("variable", some (.int v tv)), ("forwardcheck", some (.bool fb)), ("pushdomains", some (pdV fb P)), ("value", some x), ("domain", od), ("constraint", oc2), ("variables", ovs2)] :: solsR w n2 :: solsR w new :: pdR fb P (ps.map fun k => Value.ref (p.df k).d) :: lR D ws :: tupsR l :: iR sv 278 sd :: fcR sd fb :: iR p.c 463 p.cd :: csR p.cd (.int p.S p.ts) :: lR p.nA p.nm :: dR w p.DA p.dk p.dep :: dR w p.VA p.vk p.vep :: vcsR p :: famR p.df st p.ns :: dR w aA (kvs ++ [(v, x)]) ep3 :: lR solA ((sols ++ new.map fun q => .ref q.1) ++ n2.map fun q => .ref q.1) :: R) s) ?_ (fun f s h => ?_) fun _ _ f => f
          · refine wpAny_If (isTrue_plain ?_)
            refine nmL (by assumption) (by walk_at "m_take") (by walk_at "m_mem") ?_
            refine pd_truthy H (by walk_at "m_take") (by simp; omega) fun n => ?_
            have H := H.tok n
            by_cases hpe : (fb && !(ps.map fun k => Value.ref (p.df k).d).isEmpty) = true
            · rw [if_pos hpe]
              have hfb : fb = true := by cases fb <;> simp_all
              have hpv : pdV fb P = .ref P := by rw [hfb]; rfl
              have hpr : pdR fb P (ps.map fun k => Value.ref (p.df k).d) = lR P (ps.map fun k => Value.ref (p.df k).d) := by rw [hfb]; rfl
              rw [hpv, hpr] at H
              rw [hpv, hpr]
              refine wpAny_execs_cons ?_
              refine loop_dom (L := L) (cs := cellsOf w 261 L) (lf := fun o => [("self", some (.ref sv)), ("solutions", some (.ref solA)), ("domains", some (.ref p.DA)), ("vconstraints", some (.ref p.VA)), ("assignments", some (.ref aA)), ("single", some (.bool false)), ("lst", some (.ref D)), ("item", some (.ref r.1)), ("variable", some (.int v tv)), ("forwardcheck", some (.bool fb)), ("pushdomains", some (.ref P)), ("value", some x), ("domain", o), ("constraint", oc2), ("variables", ovs2)]) (f := 346) (ps := ps) (fA := P) (st := st2) (o := od) (ns := p.ns) (df := p.df)
                (fun i st' => (∀ k ∈ ps.take i, st' k = st k) ∧ ∀ k, k ∉ ps.take i → st' k = st2 k) hA'.hd B (H.sub (by walk_at "m_sub")) (by walk_at "m_take") hpsn ⟨fun k hk => by simp at hk, fun k _ => rfl⟩
                (fun o v => (by walk_at "m_upl")) (fun v => (by walk_at "m_mem")) (fun o => (by walk_at "m_mem")) rfl (by kernel_rfl) (by kernel_rfl) (by kernel_rfl) (by kernel_rfl) (by kernel_rfl) (by kernel_rfl) (by kernel_rfl) (by intros; kernel_rfl) (by kernel_rfl) (by kernel_rfl) (by kernel_rfl) rfl ?_ ?_
              · rintro j k st' N s' Q' hk ⟨h1, h2⟩ H q'
                have hkm := List.mem_of_getElem? hk
                have hkn := hpsn k hkm
                have e := h2 k (not_mem_take hpnd hk)
                have ho := (hroom k hkn).ok
                have hol := ho.len
                have hos := ho.lss
                obtain ⟨t, b, e2⟩ := hAf.on hfb k hkm
                obtain ⟨xs, bs, e3, e4⟩ := popable (c := p.S - psum (kvs ++ [(v, x)]) p.ns) (d := st k) (t := t) b
                have e5 := congrArg List.length e4
                rw [List.length_append] at e5
                refine fam_pop (hA'.le (by omega)) B H Take.head hp.nd hkn (by rw [e, e2, e3]) (by omega) (by omega) fun s'' H => q' _ s'' ⟨fun k' hk' => ?_, fun k' hk' => ?_⟩ H
                · rw [List.take_add_one, hk] at hk'
                  by_cases ek : k' = k
                  · subst ek; unfold upd; rw [if_pos rfl, e4]
                  · unfold upd; rw [if_neg ek]
                    exact h1 k' ((List.mem_append.mp hk').resolve_right (by simpa using ek))
                · rw [List.take_add_one, hk] at hk'
                  have ek : k' ≠ k := by rintro rfl; exact hk' (by simp)
                  unfold upd; rw [if_neg ek]
                  exact h2 k' fun h => hk' (List.mem_append_left _ h)
              · rintro o st' s' ⟨h1, h2⟩ H
                rw [List.take_length] at h1 h2
                have est : st' = st := funext fun k => by
                  by_cases hk : k ∈ ps
                  · exact h1 k hk
                  · rw [h2 k hk]; exact hAf.off k fun h => hk h.2
                rw [est] at H
                show W _ _ _ _ _
                refine wpAny_execs_nil ?_
                exact ⟨rfl, o, H.sub (by walk_at "m_sub")⟩
            · rw [if_neg hpe]
              have est : st2 = st := funext fun k => hAf.off k fun h => by
                rw [h.1] at hpe
                cases hpp : ps with
                | nil => rw [hpp] at h; exact absurd h.2 (by simp)
                | cons a r => rw [hpp] at hpe; simp at hpe
              rw [est] at H
              refine wpAny_execs_nil ?_
              exact ⟨rfl, od, H.sub (by walk_at "m_sub")⟩
          obtain ⟨rfl, od2, H⟩ := h
          show W _ _ _ _ _
          refine wpAny_execs_nil ?_
          refine ⟨_, ⟨new ++ n2, x, some x, od2, oc2, ovs2, ep3, sol_app hS hS2 ?_ ?_, ?_, rfl⟩, ?_⟩
          · rintro lq ⟨y, hy, hc1⟩ hc2
            have e1 := comp_at hvn hva hc1 hc2
            obtain ⟨j, hj, e2⟩ := List.mem_iff_getElem.mp hy
            rw [List.length_take] at hj
            rw [List.getElem_take] at e2
            obtain ⟨hjx, e3⟩ := List.getElem?_eq_some_iff.mp hx
            have := (List.pairwise_iff_getElem.mp (hok v hvn).srt) j i (by simp; omega) (by simp; omega) (by omega)
            simp only [List.getElem_map] at this
            rw [e2, e3] at this
            omega
          · intro lq
            rw [List.take_add_one, hx]
            constructor
            · rintro ⟨y, hy, h⟩
              rcases List.mem_append.mp hy with hy | hy
              · exact .inl ⟨y, hy, h⟩
              · simp at hy; subst hy; exact .inr h
            · rintro (⟨y, hy, h⟩ | h)
              · exact ⟨y, List.mem_append_left _ hy, h⟩
              · exact ⟨x, List.mem_append_right _ (by simp), h⟩
          · rw [List.length_append, Nat.succ_mul]; omega
          · rw [List.map_append, ← List.append_assoc]
            have H := sols_app (l1 := new) (l2 := n2) H (by walk_at "m_pick")
            exact H.sub (by walk_at "m_sub")
        · rintro M s ⟨new, y, ov, od, oc, ovs, cep, hS, hnl, rfl⟩ H
          rw [List.take_length] at hS
          have hx2v := hx2 v hvn
          show W _ _ _ _ _
          refine wpAny_execs_nil ?_
          show W _ _ _ _ _
          refine wpAny_execs_cons ?_
          refine wpAny_Delete (wpAny_deleteEach_cons (wpAny_delete_Subscript ?_))
          refine nmC (L := L) (by assumption) (by walk_at "m_take") (by walk_at "m_mem") ?_
          refine nmL (by assumption) (by walk_at "m_take") (by walk_at "m_mem") ?_
          refine d_del H (by walk_at "m_take") (by simp; omega) (by rw [va_self hva]; rfl) fun ep3 s33 H => ?_
          rw [without_app hva] at H
          refine wpAny_deleteEach_nil ?_
          show W _ _ _ _ _
          refine wpAny_execs_cons ?_
          refine wpAny_Return_some ?_
          refine nmL (by assumption) (by walk_at "m_take") (by walk_at "m_mem") ?_
          refine q new ep3 s33 ⟨hS.nd, fun l => (hS.ext l).trans (comp_split hvn hva).symm, hS.val⟩ ?_ (H.sub (by walk_at "m_sub"))
          calc new.length ≤ (st v).xs.length * 2 ^ u' := hnl
            _ ≤ 2 * 2 ^ u' := Nat.mul_le_mul_right _ hx2v
            _ = 2 ^ (u' + 1) := by rw [Nat.pow_succ]; omega
    · rintro M s ⟨ov, hj, rfl⟩ H
      have hm0 : ∀ k ∈ p.ns, valueAt kvs k ≠ none := fun k hk => by
        obtain ⟨r, hr, a, b, t, e⟩ := hT.all k hk
        obtain ⟨j, hjl, ej⟩ := List.mem_iff_getElem.mp ((hws (.ref r.1)).mpr ⟨r, hr, rfl⟩)
        exact hj j hjl r hr (by rw [List.getElem?_eq_getElem hjl, ej]) a b k t e
      have hm : miss kvs p.ns = false := by
        unfold miss
        rw [List.any_eq_false]
        intro k hk
        rw [Option.isNone_iff_eq_none]
        exact hm0 k hk
      refine wpAny_execs_cons ?_
      refine wpAny_Expr ?_ (by kernel_rfl) (by kernel_rfl)
      refine callM ?_
      refine nmL (by assumption) (by walk_at "m_take") (by walk_at "m_mem") ?_
      refine lst_meth H (by walk_at "m_take") slot_list_append PySem.F.type_list_append ?_
      refine app_ ?_
      refine callM ?_
      refine nmC (L := L) (by assumption) (by walk_at "m_take") (by walk_at "m_mem") ?_
      refine d_meth H (by walk_at "m_take") PySem.F.slot_dict_copy PySem.F.type_dict_copy ?_
      refine d_copy B H (by walk_at "m_take") (by omega) fun b epb s13 H => ?_
      have hpow : 1 ≤ 2 ^ u := Nat.one_le_two_pow
      refine ⟨g, z, _, _, sols, H, (by walk_at "m_take"), by omega, fun s14 H => ?_⟩
      show W _ _ _ _ _
      refine wpAny_execs_cons ?_
      refine wpAny_Return_some ?_
      refine nmL (by assumption) (by walk_at "m_take") (by walk_at "m_mem") ?_
      have H := sols_add (a := b) (kvs := kvs) (ep := epb) (l := []) (sols_nil H) (by walk_at "m_pick")
      rw [List.nil_append] at H
      refine q [(b, kvs)] ep s14 ⟨by simp, fun l => ?_, fun q hq k hk => ?_⟩ (by simpa using hpow) (by simp only [List.map_cons, List.map_nil]; exact H.sub (by walk_at "m_sub"))
      · simp only [List.map_cons, List.map_nil, List.mem_singleton]
        constructor
        · rintro rfl
          refine ⟨vAt kvs, rfl, fun k hk x e => by unfold vAt; rw [e]; rfl, fun k hk e => absurd e (hm0 k hk), hend hm⟩
        · rintro ⟨f, rfl, h2, _, _⟩
          refine List.map_congr_left fun k hk => ?_
          cases e : valueAt kvs k with
          | none => exact absurd e (hm0 k hk)
          | some x => rw [h2 k hk x e]; unfold vAt; rw [e]; rfl
      · rw [List.mem_singleton.mp hq]
        cases e : valueAt kvs k with
        | none => exact absurd e (hm0 k hk)
        | some x => exact ⟨x, rfl, hall k x e⟩
theorem rec_ {sv sd solA aA : Addr} {fb : Bool} (B : Base w g) (hp : p.Ok) : ∀ (u : Nat) {A : Around} {s : Shared} {R : List Res} {sols : List Value} {kvs : List (Int × Value)} {ep : Nat} {st : Int → DS} {Q : Value → Shared → Prop}, Ok (40 * u + 30) A →
    Hs g z (iR sv 278 sd :: fcR sd fb :: iR p.c 463 p.cd :: csR p.cd (.int p.S p.ts) :: lR p.nA p.nm :: dR w p.DA p.dk p.dep :: dR w p.VA p.vk p.vep :: vcsR p :: famR p.df st p.ns :: dR w aA kvs ep :: lR solA sols :: R) s →
    (p.ns.filter fun k => (valueAt kvs k).isNone).length = u → allI kvs → kvs.length + u ≤ 100 → (∀ k ∈ p.ns, Room (st k) u) → (∀ k ∈ p.ns, (st k).xs.length ≤ 2) → NonNeg p.ns kvs st → (miss kvs p.ns = false → psum kvs p.ns = p.S) → sols.length + 2 ^ u ≤ 1000 →
    (∀ new ep' s', Sol p.S p.ns (Comp p.S p.ns kvs st) new → new.length ≤ 2 ^ u → Hs g z (iR sv 278 sd :: fcR sd fb :: iR p.c 463 p.cd :: csR p.cd (.int p.S p.ts) :: lR p.nA p.nm :: dR w p.DA p.dk p.dep :: dR w p.VA p.vk p.vep :: vcsR p :: famR p.df st p.ns :: dR w aA kvs ep' :: lR solA (sols ++ new.map fun q => .ref q.1) :: solsR w new :: R) s' → Q (.ref solA) s') →
    W w A (call (.ref 261) [.ref sv, .ref solA, .ref p.DA, .ref p.VA, .ref aA, .bool false]) Q s := by
  intro u0
  induction u0 with
  | zero => exact fun {A s R sols kvs ep st Q} => rec_step B hp 0 (fun u' h => absurd h (by omega))
  | succ u ih => exact fun {A s R sols kvs ep st Q} => rec_step B hp (u + 1) (fun u' h {A s R sols kvs ep st Q} => by
      have e : u' = u := by omega
      subst e
      exact ih)
end
end
section
/-- a segment of a generator's run: from here to its next yield, or its end -/
def SX (w : World) (A : Around) (c : Code) (t : Sem Fin) (fs : List Frame) (s : Shared) (P : End → Shared → Prop) : Prop :=
  ∀ Γ p, Γ.code = c → Γ.Woken A → ∃ e s', Runs (model pr w) Γ p t fs s e s' ∧ e.quiet = true ∧ P e s'
section
variable {w : World} {A : Around} {c : Code} {fs : List Frame} {s : Shared} {P : End → Shared → Prop} {env : Env} {K : Flow → Sem Fin} {H : Value → Sem Fin} {gd : Bool → Bool} {lv : List Value → List Value}
theorem x_wrap {α : Type} {m : Sem α} {K : α → Sem Fin} (h : W w (A.over c fs) m (fun a s' => SX w A c (K a) fs s' P) s) : SX w A c (m.wrap K H gd lv) fs s P := by
  rintro Γ p rfl hΓ
  exact runs_wrap_of_wp (Φ := fun e s' => e.quiet = true ∧ P e s') K H gd lv m (h (Γ.over fs) p (hΓ.over fs)) (fun a p' s' h' => h' Γ p' rfl hΓ) (fun x p' s' h' => h'.elim)
theorem x_bind {α β : Type} {m : Sem α} {K : α → Sem β} {K' : β → Sem Fin} (h : W w (A.over c fs) m (fun a s' => SX w A c ((K a).wrap K' H gd lv) fs s' P) s) : SX w A c ((m >>= K).wrap K' H gd lv) fs s P := by
  rw [Sem.bind_eq_wrap', Sem.wrap_wrap]; exact x_wrap h
theorem x_nil (h : SX w A c (K .next) fs s P) : SX w A c ((execs [] env).wrap K H gd lv) fs s P := h
theorem x_cons {st : Stmt} {rest : List Stmt} (h : SX w A c ((exec st env).wrap (fun f => match f with | .next => (execs rest env).wrap K H gd lv | f => K f) H gd lv) fs s P) : SX w A c ((execs (st :: rest) env).wrap K H gd lv) fs s P := by
  rw [execs_cons_wrap]; exact h
theorem x_stmt {st : Stmt} {rest : List Stmt} (h : W w (A.over c fs) (exec st env) (fun f s' => SX w A c (match f with | .next => (execs rest env).wrap K H gd lv | f => K f) fs s' P) s) : SX w A c ((execs (st :: rest) env).wrap K H gd lv) fs s P :=
  x_cons (x_wrap h)
theorem x_call {c' : Code} {h : Option Value} {g : Bool} {l : List Value} {k : Result → Sem Fin} (hc : ∀ p, SX w A c' ((model pr w).den c') (.ret k h g l c p [] :: fs) s P) : SX w A c (.call c' h g l k) fs s P := by
  rintro Γ p rfl hΓ
  obtain ⟨e, s', hr, hq⟩ := hc p (Γ.goto c') p rfl (hΓ.goto c')
  exact ⟨e, s', runs_call_seg hr, hq⟩
theorem x_again {c' : Code} (hq : c'.quiet = true) (hc : SX w A c' ((model pr w).den c') fs s P) : SX w A c (.pure (.again c')) fs s P := by
  rintro Γ p rfl hΓ
  obtain ⟨e, s', hr, he⟩ := hc (Γ.goto c') p rfl (hΓ.goto c')
  exact ⟨e, s', Runs.head (c₁ := c') (fun _ _ x => .again hq x) hr, he⟩
theorem x_pop {k : Result → Sem Fin} {h : Option Value} {g : Bool} {l : List Value} {c₁ : Code} {p₁ : Pos} {kp} {f : Flow} (hk : SX w A c₁ (k (.ok f)) fs s P) : SX w A c (.pure (.done f)) (.ret k h g l c₁ p₁ kp :: fs) s P := by
  rintro Γ p rfl hΓ
  obtain ⟨e, s', hr, he⟩ := hk (Γ.goto c₁) p₁ rfl (hΓ.goto c₁)
  exact ⟨e, s', Runs.pop (.ok f) hr, he⟩
theorem x_end {f : Flow} (h : P (.ret (.ok f)) s) : SX w A c (.pure (.done f)) [] s P := by
  rintro Γ p rfl _
  exact ⟨.ret (.ok f), s, Runs.leaf (.ok f), rfl, h⟩
theorem x_while {test : Expr} {body orelse : List Stmt} {pos : Pos} (h : ∀ p k, (∀ f, k (.ok f) = K f) → SX w A (.whileLoop test body orelse env) ((model pr w).den (.whileLoop test body orelse env)) (.ret k none (gd false) (lv []) c p [] :: fs) s P) :
    SX w A c ((exec (.While test body orelse pos) env).wrap K H gd lv) fs s P :=
  x_wrap (m := standAt pos) (H := .raise) (gd := id) (lv := id) (K := fun _ => _) (wpAny_standAt (x_call fun p => h p _ fun f => rfl))
theorem x_whileTurn {test : Expr} {body orelse : List Stmt}
    (h : W w (A.over (.whileLoop test body orelse env) fs) (isTrue test env (eval test env)) (fun b s' =>
      if b = true then ∀ H, SX w A (.whileLoop test body orelse env) ((execs body env).wrap (fun f => match f with
            | .next | .cont => .pure (.again (.whileLoop test body orelse env))
            | .brk => .pure (.done .next)
            | .ret v => .pure (.done (.ret v))) H id id) fs s' P
      else ∀ H, SX w A (.whileLoop test body orelse env) ((execs orelse env).wrap (fun f => .pure (.done f)) H id id) fs s' P) s) :
    SX w A (.whileLoop test body orelse env) ((model pr w).den (.whileLoop test body orelse env)) fs s P := by
  show SX w A _ ((whileTurn test body orelse env).onRaise (fun x => do noteFrame x env; theTreesLotGoes x)) fs s P
  unfold whileTurn
  rw [Sem.onRaise_eq_wrap]
  refine x_bind (wpAny_mono h (fun b s' hb => ?_) fun _ _ f => f)
  cases b with
  | true =>
    rw [if_pos rfl] at hb
    rw [if_pos rfl, Sem.bind_eq_wrap', Sem.wrap_wrap]
    rw [Sem.wrap_congr (execs body env) _ _ (K' := fun f => match f with
            | .next | .cont => .pure (.again (.whileLoop test body orelse env))
            | .brk => .pure (.done .next)
            | .ret v => .pure (.done (.ret v))) (fun f => by cases f <;> rfl) (fun e => rfl)]
    exact hb _
  | false =>
    rw [if_neg Bool.false_ne_true] at hb
    rw [if_neg Bool.false_ne_true, Sem.bind_eq_wrap', Sem.wrap_wrap]
    rw [Sem.wrap_congr (execs orelse env) _ _ (K' := fun f => (.pure (.done f) : Sem Fin)) (fun f => by rfl) (fun e => rfl)]
    exact hb _
theorem x_func {body : List Stmt} (h : ∀ H, SX w A (.func body env) ((execs body env).wrap (fun f => .pure (.done (.ret (match f with | .ret v => v | _ => .none)))) H id id) fs s P) :
    SX w A (.func body env) ((model pr w).den (.func body env)) fs s P := by
  refine x_wrap (m := point) (H := .raise) (gd := id) (lv := fun _ => []) (K := fun _ => _) (wpAny_point ?_)
  rw [Sem.onRaise_eq_wrap, Sem.bind_eq_wrap', Sem.wrap_wrap]
  rw [Sem.wrap_congr (execs body env) _ _ (K' := fun f => .pure (.done (.ret (match f with | .ret v => v | _ => .none)))) (fun f => by cases f <;> rfl) (fun e => rfl)]
  exact h _
theorem x_block {body : List Stmt} (h : ∀ H, SX w A (.block body env) ((execs body env).wrap (fun f => .pure (.done f)) H id id) fs s P) :
    SX w A (.block body env) ((model pr w).den (.block body env)) fs s P := by
  show SX w A _ (((execs body env).onRaise _) >>= _) fs s P
  rw [Sem.onRaise_eq_wrap, Sem.bind_eq_wrap', Sem.wrap_wrap]
  rw [Sem.wrap_congr (execs body env) _ _ (K' := fun f => (.pure (.done f) : Sem Fin)) (fun f => by rfl) (fun e => rfl)]
  exact h _
theorem x_yield {e : Expr} {ypos pos : Pos} (hfs : splitAtGen fs = none) (hgd : gd false = false) (hfg : fs.any Frame.guarded = false)
    (h : W w (A.over c fs) (eval e env) (fun v s' => ∀ l p (k : Resume → Sem Fin), k (.send .none) = K .next → P (.susp v (gd false) l k c p fs) s') s) (hco : env.scope.isCoroutine = false := by rfl) (hi : interactive env = false := by rfl) :
    SX w A c ((exec (.Expr (.Yield (some e) ypos) pos) env).wrap K H gd lv) fs s P := by
  rw [exec_Expr env _ pos hi rfl]
  show SX w A c (.at pos fun _ => ((eval e env >>= fun v => (standAt ypos >>= fun _ => yieldOut env v)) >>= fun x =>
    dropValue (.Yield (some e) ypos) pos x).wrap K H gd lv) fs s P
  have hy : ∀ v, yieldOut env v = yieldValue v := fun v => by simp only [yieldOut, hco, Bool.false_eq_true, if_false]
  simp only [hy]
  refine x_wrap (m := standAt pos) (H := .raise) (gd := id) (lv := id) (K := fun _ => _) (wpAny_standAt ?_)
  rw [Sem.bind_eq_wrap', Sem.bind_eq_wrap', Sem.wrap_wrap, Sem.wrap_wrap]
  refine x_wrap (wpAny_mono h (fun v s' h' => ?_) fun _ _ x => x)
  refine x_wrap (m := standAt ypos) (H := .raise) (gd := id) (lv := id) (K := fun _ => _) (wpAny_standAt ?_)
  rintro Γ p rfl _
  refine ⟨_, s', Runs.yield' fs hfs, ?_, h' _ _ _ rfl⟩
  simp [End.quiet, hgd, hfg]
theorem x_for {target iter : Expr} {body orelse : List Stmt} {pos : Pos}
    (h : W w (A.over c fs) (eval iter env) (fun x s₁ => W w (A.over c fs) (pyIter x) (fun it s₂ => ∀ p k, (∀ f, k (.ok f) = K f) →
      SX w A (.forLoop target it body orelse env) ((model pr w).den (.forLoop target it body orelse env)) (.ret k none (gd false) (lv []) c p [] :: fs) s₂ P) s₁) s)
    (hs : ∀ x, foldedSetIterable iter env x = pure x := by intro _; rfl) : SX w A c ((exec (.For target iter body orelse pos) env).wrap K H gd lv) fs s P := by
  rw [exec_For]
  refine x_bind (wpAny_standAt ?_)
  refine x_bind (wpAny_mono h (fun x s₁ h₁ => ?_) fun _ _ f => f)
  refine x_bind (wpAny_of_eq (hs x) ?_)
  refine x_bind (wpAny_standAt ?_)
  refine x_bind (wpAny_holding (wpAny_mono h₁ (fun it s₂ h₂ => ?_) fun _ _ f => f))
  exact x_call fun p => h₂ p _ fun f => rfl
theorem x_forLoop {target : Expr} {it : Value} {body orelse : List Stmt} {g : Heap} {z : Shared} {n : Nat} {Pv : Nat → Value → Prop} {I : Nat → Res} {N : Heap → Prop} (It : Iter w (A.over (.forLoop target it body orelse env) fs) it n Pv I N) (J : Nat → List Res → Prop)
    (hN : ∀ i M s, J i M → Hs g z M s → N s.heap)
    (turn : ∀ i M v s, i < n → J i M → Pv i v → Hs g z (I (i + 1) :: M) s → W w (A.over (.forLoop target it body orelse env) fs) (assign target env v) (fun _ s₁ => W w (A.over (.forLoop target it body orelse env) fs) (execs body env) (fun f s₂ => match f with
        | .next | .cont => ∃ M', J (i + 1) M' ∧ Hs g z (I (i + 1) :: M') s₂
        | .brk => SX w A (.forLoop target it body orelse env) (.pure (.done .next)) fs s₂ P
        | .ret v => SX w A (.forLoop target it body orelse env) (.pure (.done (.ret v))) fs s₂ P) s₁) s)
    (done : ∀ M s, J n M → Hs g z M s → SX w A (.block orelse env) ((model pr w).den (.block orelse env)) fs s P) :
    ∀ (m i : Nat) M s, m = n - i → i ≤ n → J i M → Hs g z (I i :: M) s → SX w A (.forLoop target it body orelse env) ((model pr w).den (.forLoop target it body orelse env)) fs s P := by
  intro m
  induction m with
  | zero =>
    intro i M s hm hi hJ H
    obtain rfl : i = n := by omega
    show SX w A _ ((forTurn target it body orelse env).onRaise (fun x => do noteFrame x env; theTreesLotGoes x)) fs s P
    rw [Sem.onRaise_eq_wrap]
    unfold forTurn
    refine x_bind (wpAny_standAt ?_)
    refine x_bind (wpAny_onRaise (wpAny_mono (It.done g z M s (fun r s' => match r with | none => SX w A (.block orelse env) ((model pr w).den (.block orelse env)) fs s' P | some _ => False) (hN i M s hJ H.drop) H fun s' H' => done M s' hJ H') (fun r s' h' => ?_) fun _ _ f => f.elim))
    cases r with
    | none => exact x_again rfl h'
    | some v => exact h'.elim
  | succ m ih =>
    intro i M s hm hi hJ H
    show SX w A _ ((forTurn target it body orelse env).onRaise (fun x => do noteFrame x env; theTreesLotGoes x)) fs s P
    rw [Sem.onRaise_eq_wrap]
    unfold forTurn
    refine x_bind (wpAny_standAt ?_)
    refine x_bind (wpAny_onRaise (wpAny_mono (It.next g z i M s (fun r s' => ∃ v, r = some v ∧ Pv i v ∧ Hs g z (I (i + 1) :: M) s') (by omega) (hN i M s hJ H.drop) H fun v s' hv H' => ⟨v, rfl, hv, H'⟩) (fun r s' h' => ?_) fun _ _ f => f.elim))
    obtain ⟨v, rfl, hv, H'⟩ := h'
    refine x_bind (It.go g z i M s' target v _ hv H' fun s'' H'' => ?_)
    refine x_bind (wpAny_mono (turn i M v s'' (by omega) hJ hv H'') (fun _ s₁ h₁ => ?_) fun _ _ f => f)
    refine x_bind (wpAny_mono h₁ (fun f s₂ h₂ => ?_) fun _ _ f => f)
    cases f with
    | next => obtain ⟨M', j', H'⟩ := h₂; exact x_again rfl (ih (i + 1) M' s₂ (by omega) (by omega) j' H')
    | cont => obtain ⟨M', j', H'⟩ := h₂; exact x_again rfl (ih (i + 1) M' s₂ (by omega) (by omega) j' H')
    | brk => exact h₂
    | ret v => exact h₂
theorem Ok.over {k : Nat} (j : Nat) (hA : Ok (k + j) A) (h1 : (marksOver fs (A.handled, A.handled)).1 = A.handled) (h2 : frameCount (fs.map Frame.where_) + c.weight ≤ j) (h3 : unitsOf (fs.map Frame.where_) + c.cUnits ≤ 20 * j) : Ok k (A.over c fs) :=
  ⟨h1.trans hA.hd, by have := hA.dp; show A.depth + frameCount (fs.map Frame.where_) + c.weight + k ≤ 900; omega, by have := hA.un; show A.units + unitsOf (fs.map Frame.where_) + c.cUnits + 20 * k ≤ 9000; omega⟩
end
end
section
open Sem (wp)
section
variable {w : World} {A : Around} {g : Heap} {z s : Shared} {M M' R : List Res}
theorem resume_any {α : Type} {E : Value → Shared → Prop} {gi : Nat} {gs : GenState} {r : Resume} {l : List Value} {k : GenResult → Sem α} {c₀ : Code} {t₀ : Sem Fin} {fs₀ : List Frame} {P : End → Shared → Prop} {Q : α → Shared → Prop} (hgs : s.gens[gi]? = some gs)
    (hgo : (gs = .fresh c₀ ∧ r = .send .none ∧ t₀ = denote table c₀ ∧ fs₀ = []) ∨ (∃ k₀ l₀ p₀ cl, gs = .suspended k₀ l₀ c₀ p₀ fs₀ cl ∧ t₀ = k₀ r))
    (x : SX w A c₀ t₀ fs₀ (s.setGen gi .running) P) (hk : ∀ e s₁, P e s₁ → wpAny (model pr w) A (k e.result) Q E (s₁.setGen gi e.genState)) : wpAny (model pr w) A (.resume gi r l k) Q E s := by
  refine fun Γ p hΓ => PySem.W.X.wake_any _ pr w hgs hgo (fun Γ => Γ.In _) (fun _ h => h) (PySem.W.X.SegX.mono (show PySem.W.X.SegX _ _ _ _ _ _ P from x) fun e s₁ hp Γ p hΓ => hk e s₁ hp Γ p hΓ) Γ p hΓ
theorem next_gen {a gi : Nat} {gs : GenState} {c₀ : Code} {t₀ : Sem Fin} {fs₀ : List Frame} {P : End → Shared → Prop} {Q : Option Value → Shared → Prop} (hh : A.handled = none) (hl : s.heap.NoLimit) (hroom : A.depth < recursionLimit)
    (hg : s.heap.IsGen a gi) (hgs : s.gens[gi]? = some gs)
    (hgo : (gs = .fresh c₀ ∧ t₀ = denote table c₀ ∧ fs₀ = []) ∨ (∃ k₀ l₀ p₀ cl, gs = .suspended k₀ l₀ c₀ p₀ fs₀ cl ∧ t₀ = k₀ (.send .none)))
    (x : SX w A.in1 c₀ t₀ fs₀ (s.setGen gi .running) P)
    (hP : ∀ e s₁, P e s₁ → (∃ v g l k c p fs, e = .susp v g l k c p fs ∧ Q (some v) (s₁.setGen gi e.genState)) ∨ (e = .ret (.ok (.ret .none)) ∧ ∀ h', (∀ b o, s₁.heap.get? b = some o → h'.get? b = some o) → Q none { s₁.setGen gi .finished with heap := h' })) :
    W w A (pyNext (.ref a)) Q s := by
  unfold pyNext
  refine wpAny_bind (wpAny_attempt (wpAny_callSpecial?_slot (name := Str.ofString "__next__") hg.typeIs slot_gen_next
    (wpAny_call_entry slot_gen_next hg.typeIs entry_gen_next ?_ (args_gen_next _))))
  show wpAny _ _ (Builtin.Generator.genWake (.ref a) (.send .none)) _ _ s
  unfold Builtin.Generator.genWake
  refine wpAny_bind (wpAny_holding (wpAny_genNumber hg (wpAny_bind (wpAny_genState hgs ?_))))
  have hgo' : (gs = .fresh c₀ ∧ Resume.send .none = .send .none ∧ t₀ = denote table c₀ ∧ fs₀ = []) ∨ (∃ k₀ l₀ p₀ cl, gs = .suspended k₀ l₀ c₀ p₀ fs₀ cl ∧ t₀ = k₀ (.send .none)) := hgo.imp (fun ⟨a, b, c⟩ => ⟨a, rfl, b, c⟩) id
  cases gs with
  | running => rcases hgo with ⟨h, _⟩ | ⟨_, _, _, _, h, _⟩ <;> cases h
  | finished => rcases hgo with ⟨h, _⟩ | ⟨_, _, _, _, h, _⟩ <;> cases h
  | _ =>
    refine wpAny_bind (wpAny_roomToWake hl hroom ?_)
    show wpAny _ _ (.resume gi (.send .none) [] _) _ _ s
    refine resume_any hgs hgo' x fun e s₁ hp => ?_
    rcases hP e s₁ hp with ⟨v, g', l, k, c, p', fs, rfl, hq⟩ | ⟨rfl, hq⟩
    · exact wpAny_pure ⟨v, rfl, wpAny_pure hq⟩
    · show wpAny _ _ (newExc (.type "StopIteration") [] >>= _) _ _ _
      refine wpAny_bind ?_
      simp only [newExc, newTuple]
      refine wpAny_bind (wpAny_newObj_type ?_ (by size_fits))
      refine wpAny_bind (m := firstArgMember _ _) (wpAny_of_eq (a := Value.none) (by first | rfl | (simp only [firstArgMember]; rfl)) ?_)
      refine wpAny_newObj_type ?_ (by size_fits)
      simp only [raiseNew]
      refine wpAny_bind (wpAny_bind (wpAny_handled ?_))
      rw [show A.in1.handled = none from hh]
      refine wpAny_throw ?_
      refine wpAny_bind (wpAny_isInstance (T := "StopIteration") (b := true) ⟨_, Heap.get?_push_size _ rfl, rfl⟩ isSubtype_stop ?_)
      exact wpAny_pure (hq _ fun b o hb => Heap.get?_push_of_some _ (Heap.get?_push_of_some _ hb))
end
end
section
open Sem (wp)
section
variable {w : World} {A : Around} {g : Heap} {z s : Shared} {M M' R : List Res}
theorem Hs.gensTo (H : Hs g z M s) (G : Array GenState) : Hs g { z with gens := G } M { s with gens := G } := ⟨H.base, rfl, H.drawn, H.os, H.ok, H.off, H.dj⟩
def genR (a gi : Nat) : Res := cR a fun o => ∃ nm qn, o.cls = .type "generator" ∧ o.data = .fields #[.int gi 0, nm, qn] ∧ o.slots = #[]
theorem gen_at {a gi : Nat} (H : Hs g z M s) (t : Take (genR a gi) M M') : s.heap.IsGen a gi := by
  obtain ⟨o, e, nm, qn, h1, h2, h3⟩ := H.get t
  exact ⟨o, nm, qn, e, h1, h2, h3⟩
noncomputable def gnOk (w : World) (a : Addr) : Bool := match (Kf w).lookup a with
  | some ⟨_, _, .func fd, _⟩ => (match fd.body with | .stmts _ => true | _ => false) && fd.closure.isEmpty && !fd.scope.isCoroutine && fd.scope.isGenerator && fd.scope.kind == .function && codeIn (Kf w) fd.code fd.qualname
  | _ => false
/-- a generator's def is called -/
theorem call_gen {k : Nat} {fa : Addr} {args : List Value} {binds : List (Str × Value)} {l : List (Str × Option Value)} {Q : Value → Shared → Prop}
    (hA : Ok (k + 1) A) (B : Base w g) (H : Hs g z M s) (hb : BindsTo s (fdOf w fa) ⟨args, []⟩ binds)
    (q : ∀ L a s', Hs g { z with gens := z.gens.push (.fresh (.func (bodyOf w fa) (callEnvC (fdOf w fa) L fa))) } (genR a z.gens.size :: frR L (cellsOf w fa L) l :: M) s' → Q (.ref a) s')
    (hf : gnOk w fa = true := by kernel_rfl) (hl : l.map (fun p => binds.reverse.lookup p.1) = l.map (·.2) := by kernel_rfl) (hn : bindsOk w fa binds l = true := by kernel_rfl)
    (hk2 : ((fdOf w fa).scope.names.all fun x => x.2 != .cell || (fdOf w fa).scope.names.lookup x.1 == some .cell) = true := by kernel_rfl) :
    W w A (call (.ref fa) args) Q s := by
  refine wpAny_call ?_
  unfold gnOk at hf
  split at hf
  · rename_i oc od fd sl ho
    have e : fdOf w fa = fd := by unfold fdOf objOf; rw [ho]
    simp only [Bool.and_eq_true, Bool.not_eq_true', beq_iff_eq, List.isEmpty_iff] at hf
    obtain ⟨⟨⟨⟨⟨h1, hcl⟩, h2⟩, h3⟩, h4⟩, h6⟩ := hf
    have hbody : fd.body = .stmts (bodyOf w fa) := by
      unfold bodyOf; rw [e]
      cases hb : fd.body with
      | stmts b => rfl
      | expr b => rw [hb] at h1; cases h1
    unfold bindsOk at hn
    simp only [Bool.and_eq_true, List.all_eq_true, Bool.or_eq_true, beq_iff_eq] at hn
    obtain ⟨⟨hnd, hkl⟩, hkb⟩ := hn
    rw [e] at hb hkl hkb q hk2
    have cellk : ∀ x c n, (cellsFrom n fd.scope.names []).lookup x = some c → fd.scope.names.lookup x = some .cell := fun x c n hx => by
      rcases cellsFrom_kind hx with h | h
      · have := List.all_eq_true.mp hk2 _ h
        simpa using this
      · cases h
    have X := B.x H
    have lim : s.heap.NoLimit := B.lim.keeps H.base
    refine codeAny_call_generator hA.room (X _ _ ho) rfl h2 h3 hbody (codeRec_of X h6) (hb _ _ _ _ ?_)
    rw [hcl]
    refine wpAny_newFunctionEnv_cells h4 (fun x hx => ?_) fun env he s' x => ?_
    · rcases hkb x hx with h | h
      · exact .inl h
      · exact .inr ⟨h, cellsFrom_some (.inl (mem_of_lookup h))⟩
    obtain ⟨h', tk, hs', hk'⟩ := x.done
    refine ⟨by subst hs'; exact lim.keeps hk', ?_⟩
    subst he
    have K : Keeps s s' := ⟨h', tk, hs', hk'⟩
    have hfresh : ∀ b, s.heap.objs.size ≤ b → s.heap.get? b = none := fun b hb => by
      cases q : s.heap.get? b with
      | none => rfl
      | some o => exact absurd (Heap.lt_size q) (Nat.not_lt.mpr hb)
    have H1 : Hs g z (frR s.heap.objs.size (cellsOf w fa s.heap.objs.size) l :: M) s' := by
      refine H.new K ?_ ?_
      · rintro b (rfl | ⟨p, hp, hc⟩)
        · exact hfresh _ (Nat.le_refl _)
        · exact hfresh _ (Nat.le_of_lt (x.above _ _ (mem_of_lookup (show (cellsFrom (s.heap.objs.size + 1) fd.scope.names []).lookup p.1 = some b by rw [← e]; exact hc))))
      · rw [show cellsOf w fa s.heap.objs.size = cellsFrom (s.heap.objs.size + 1) fd.scope.names [] by rw [cellsOf, e]]
        have look : ∀ p ∈ l, binds.reverse.lookup p.1 = p.2 := fun p hp => by
          obtain ⟨i, hi, rfl⟩ := List.mem_iff_getElem.mp hp
          have := congrArg (fun q => q[i]?) hl
          simpa [hi] using this
        refine ⟨⟨_, x.toInCall.ns, fun p hp hc => ?_⟩, fun p hp c hc => ⟨?_, ?_⟩, fun p hp q hq c hc hc' => ?_, nodup_of hnd⟩
        · have hloc : fd.scope.names.lookup p.1 = some .local := by
            rcases hkl p hp with h | h
            · exact h
            · have := cellsFrom_some (n := s.heap.objs.size + 1) (acc := []) (.inl (mem_of_lookup h))
              rw [hc] at this; cases this
          rw [bindL_not hloc, look p hp]; cases p.2 <;> rfl
        · have hcell := cellk _ _ _ hc
          have := x.cell p.1 c hc
          rwa [bindC_not (by show fd.scope.names.lookup p.1 ≠ _; rw [hcell]; decide), look p hp, show (p.2).or ((fun _ => none : Str → Option Value) p.1) = p.2 by cases p.2 <;> rfl] at this
        · exact Nat.ne_of_gt (x.above _ _ (mem_of_lookup hc))
        · exact nodup_key (nodup_of hnd) hp hq (name_of_addr x.apart (mem_of_lookup hc) (mem_of_lookup hc'))
    have eg : s'.gens = z.gens := H1.gens
    have H2 := H1.gensTo (z.gens.push (.fresh (.func (bodyOf w fa) (callEnvC fd s.heap.objs.size fa))))
    have H3 : Hs g _ (genR s'.heap.objs.size z.gens.size :: _) _ := new_obj (o := { cls := .type "generator", data := .fields #[.int s'.gens.size 0, .str fd.name s'.toks, .str fd.qualname (s'.toks + 1)] }) H2 ⟨_, _, rfl, by rw [eg], rfl⟩ rfl (s'.toks + 1 + 1)
    rw [← eg] at H3
    rw [← eg] at q
    exact q _ _ _ H3
  · cases hf
/-- what list() reads from an iterator, one by one -/
theorem ext_loop {S I : Addr} {res : Value} {Rr : Result → Shared → Prop} (J : Nat → List Value → Shared → List Res → Prop) (Fi : List Value → Shared → List Res → Prop)
    (next : ∀ m acc z M s, J m acc z M → Hs g z (lR S acc :: M) s → W w A.in1 (pyNext (.ref I)) (fun o s' => match o with
      | none => ∃ z' M', Fi acc z' M' ∧ Hs g z' (lR S acc :: M') s'
      | some v => ∃ m' z' M', m' < m ∧ acc.length ≤ 1000 ∧ J m' (acc ++ [v]) z' M' ∧ Hs g z' (lR S acc :: M') s') s)
    (fin : ∀ acc z M s, Fi acc z M → Hs g z (lR S acc :: M) s → Rr (.ok (.ret res)) s) :
    ∀ (m : Nat) (acc : List Value) (z : Shared) (M : List Res) (s : Shared), J m acc z M → Hs g z (lR S acc :: M) s → codeAny (model pr w) A (.builtin "list.extend.loop" ⟨[.ref S, .ref I, res], []⟩) Rr s := by
  intro m
  induction m using Nat.strongRecOn with
  | ind m ih =>
    intro acc z M s hJ H
    have hl : sizeLine = 2 ^ 24 := rfl
    refine codeAny_builtin F.entry_extend_loop ?_
    rw [Around.under_plainId F.plain_extend_loop _]
    show wpAny _ A.in1 (pyNext (.ref I) >>= _) _ _ s
    refine wpAny_bind (W.any (wpAny_mono (next m acc z M s hJ H) (fun o s' h => ?_) fun _ _ f => f))
    cases o with
    | none =>
      obtain ⟨z', M', hF, H'⟩ := h
      exact wpAny_pure (fin acc z' M' s' hF H')
    | some v =>
      obtain ⟨m', z', M', hm, hlen, hJ', H'⟩ := h
      obtain ⟨n, e⟩ := qR_at H' Take.head
      show wpAny _ A.in1 (updateSeq S (·.push v) >>= _) _ _ _
      refine wpAny_bind (wpAny_updateSeq (hz := ?_) e rfl (wpAny_pure ⟨plainId_quiet F.plain_extend_loop _, ih m' hm (acc ++ [v]) z' M' _ hJ' (put_seq H' Take.head (·.push v) (by simp) s'.toks)⟩))
      simp; omega
/-- list() of a generator -/
theorem list_gen {I gi m : Nat} {Q : Value → Shared → Prop} (J : Nat → List Value → Shared → List Res → Prop) (Fi : List Value → Shared → List Res → Prop) (H : Hs g z M s) (tk : Take (genR I gi) M M') (start : J m [] z M)
    (next : ∀ S m acc z M s, J m acc z M → Hs g z (lR S acc :: M) s → W w A.in1.in1 (pyNext (.ref I)) (fun o s' => match o with
      | none => ∃ z' M', Fi acc z' M' ∧ Hs g z' (lR S acc :: M') s'
      | some v => ∃ m' z' M', m' < m ∧ acc.length ≤ 1000 ∧ J m' (acc ++ [v]) z' M' ∧ Hs g z' (lR S acc :: M') s') s)
    (q : ∀ S acc z' M' s', Fi acc z' M' → Hs g z' (lR S acc :: M') s' → Q (.ref S) s') : W w A (call (.type "list") [.ref I]) Q s := by
  have hl : sizeLine = 2 ^ 24 := rfl
  refine callType_codes (Q₁ := fun obj s₁ => obj = .ref s.heap.objs.size ∧ s₁ = { s with heap := s.heap.push { cls := .type "list", data := .seq #[] } }) F.called_list (F.typeCall_list_1 _) F.entry_list_init
    (code_list_new _ ⟨rfl, rfl⟩) fun obj s₁ h₁ => ?_
  obtain ⟨rfl, rfl⟩ := h₁
  have H1 : Hs g z (lR s.heap.objs.size [] :: M) { s with heap := s.heap.push { cls := .type "list", data := .seq #[] } } := new_obj H ⟨0, rfl⟩ rfl s.toks
  generalize s.heap.objs.size = S at H1 ⊢
  generalize { s with heap := s.heap.push { cls := .type "list", data := .seq #[] } } = s1 at H1 ⊢
  obtain ⟨n1, e1⟩ := qR_at H1 Take.head
  refine ⟨⟨_, e1, rfl⟩, F.args_list_init_2 _ _, ?_⟩
  show wpAny _ A.in1.in1 (do let old ← Builtin.List.listItems (.ref S); Builtin.List.listUpdate (.ref S) (fun _ => #[]); letGo old.toList.reverse; Builtin.List.listExtendWith (.ref S) (.ref I) .none) _ _ s1
  refine wpAny_bind ?_
  unfold Builtin.List.listItems
  refine wpAny_bind (wpAny_seqItems e1 rfl (wpAny_pure ?_))
  show wpAny _ A.in1.in1 (updateSeq S (fun _ => #[]) >>= fun _ => letGo ([] : List Value).toArray.toList.reverse >>= fun _ => Builtin.List.listExtendWith (.ref S) (.ref I) .none) _ _ s1
  refine wpAny_bind (wpAny_updateSeq e1 rfl ?_)
  have H2 : Hs g z (lR S [] :: M) _ := put_seq H1 Take.head (fun _ => #[]) rfl s1.toks
  generalize hs2 : ({ s1 with heap := s1.heap.update S (Obj.mapSeq fun _ => #[]) } : Shared) = s2 at *
  refine wpAny_bind (wpAny_letGo ?_)
  have hG : s2.heap.IsGen I gi := gen_at H2 (Take.tail tk)
  have hSI : S ≠ I := fun e => by
    obtain ⟨_, e2⟩ := qR_at H2 Take.head
    obtain ⟨o, _, _, ho, hc, _⟩ := hG
    rw [← e, e2] at ho; cases ho; simp at hc
  unfold Builtin.List.listExtendWith
  refine wpAny_bind (wpAny_typeOf hG.typeIs ?_)
  have h1 : Builtin.List.listSameRef (.ref S) (.ref I) = false := by simp [Builtin.List.listSameRef, hSI]
  have h2 : (Value.type "generator" == Value.type "list") = false := by decide
  have h3 : (Value.type "generator" == Value.type "tuple") = false := by decide
  simp only [h1, h2, h3, Bool.or_false, Bool.false_eq_true, if_false]
  refine wpAny_bind (wpAny_pyIter_gen hG ?_)
  refine wpAny_bind (wpAny_holding ?_)
  unfold Builtin.List.listLengthHint
  refine wpAny_bind (wpAny_specialOf hG.typeIs F.gen_no_len ?_)
  show wpAny _ A.in1.in1 (specialOf (Value.ref I) (Str.ofString "__length_hint__") >>= _) _ _ _
  refine wpAny_bind (wpAny_specialOf hG.typeIs F.gen_no_hint ?_)
  refine wpAny_pure ?_
  show wpAny _ A.in1.in1 (rule "list.extend.makes-room" >>= fun _ => Builtin.List.listTouch (.ref S) >>= fun _ =>
    again (.builtin "list.extend.loop" ⟨[.ref S, .ref I, .none], []⟩)) _ _ _
  refine wpAny_bind (wpAny_rule ?_)
  refine wpAny_bind ?_
  show wpAny _ A.in1.in1 (updateSeq S (·.push .none) >>= fun _ => updateSeq S (·.pop)) _ _ _
  obtain ⟨n2, e2⟩ := qR_at H2 Take.head
  refine wpAny_bind (wpAny_updateSeq e2 rfl ?_)
  have H3 : Hs g z (lR S [.none] :: M) _ := put_seq H2 Take.head (·.push .none) rfl s2.toks
  obtain ⟨n3, e3⟩ := qR_at H3 Take.head
  refine wpAny_updateSeq (hz := by simp; omega) e3 rfl ?_
  have H4 : Hs g z (lR S [] :: M) _ := put_seq H3 Take.head (·.pop) rfl s2.toks
  refine wpAny_pure ⟨plainId_quiet F.plain_extend_loop _, ext_loop J Fi (next S) (fun acc z M s hF H => ⟨rfl, q S acc z M s hF H⟩) m [] z M _ start H4⟩
end
end
section
structure En where
  ta : Addr
  va : Addr
  P : Addr
  v : Int
  tv : Tok
  vals : List Value
  ps : List Int
  st : Int → DS
  x : Value
  c : Int
def kvsOf : List En → List (Int × Value)
  | [] => []
  | e :: r => kvsOf r ++ [(e.v, e.x)]
/-- how many are not given yet -/
def unN (ns : List Int) (kvs : List (Int × Value)) : Nat := (ns.filter fun k => (valueAt kvs k).isNone).length
structure Node (p : Pb) (kvs : List (Int × Value)) (st : Int → DS) : Prop where
  all : allI kvs
  len : kvs.length + unN p.ns kvs = p.ns.length
  room : ∀ k ∈ p.ns, Room (st k) (unN p.ns kvs)
  two : ∀ k ∈ p.ns, (st k).xs.length ≤ 2
  nn : NonNeg p.ns kvs st
structure PsOk (p : Pb) (kvs : List (Int × Value)) (v : Int) (ps : List Int) : Prop where
  nd : ps.Nodup
  sub : ∀ k ∈ ps, k ∈ p.ns
  mem : ∀ x : Value, ∀ k ∈ p.ns, valueAt (kvs ++ [(v, x)]) k = none → k ∈ ps
  un : ∀ x : Value, ∀ k ∈ ps, valueAt (kvs ++ [(v, x)]) k = none
  len : ps.length ≤ 4
/-- the one that is being tried -/
structure Cur (p : Pb) (kvs : List (Int × Value)) (v : Int) (vals : List Value) (ps : List Int) (st : Int → DS) : Prop where
  node : Node p kvs st
  vn : v ∈ p.ns
  va : valueAt kvs v = none
  ps : PsOk p kvs v ps
  vals : ∃ j, vals = (st v).xs.take j
  ne : ∀ k ∈ p.ns, valueAt kvs k = none → (st k).xs ≠ []
def Stk (p : Pb) (fb : Bool) : List En → (Int → DS) → Prop
  | [], _ => True
  | e :: r, st => Stk p fb r e.st ∧ Cur p (kvsOf r) e.v e.vals e.ps e.st ∧ After fb e.ps e.st st e.c ∧ (∃ j, e.vals = (e.st e.v).xs.take j ∧ (e.st e.v).xs[j]? = some e.x) ∧
    ∀ l, Comp p.S p.ns (kvsOf (e :: r)) st l ↔ Comp p.S p.ns (kvsOf (e :: r)) e.st l
def Rem (p : Pb) : List En → List Int → Prop
  | [], _ => False
  | e :: r, l => (∃ y ∈ e.vals, Comp p.S p.ns (kvsOf r ++ [(e.v, y)]) e.st l) ∨ Rem p r l
def TT : Nat → Nat
  | 0 => 1
  | u + 1 => 1 + 2 * TT u
def mu (n : Nat) : List En → Nat
  | [] => 0
  | e :: r => e.vals.length * TT (n - (r.length + 1)) + mu n r
theorem tt_pos : ∀ u, 1 ≤ TT u
  | 0 => Nat.le_refl _
  | u + 1 => by rw [TT]; omega
theorem kvs_len : ∀ q : List En, (kvsOf q).length = q.length
  | [] => rfl
  | e :: r => by rw [kvsOf, List.length_append, kvs_len r]; rfl
theorem comp_srt {p : Pb} {kvs : List (Int × Value)} {st : Int → DS} {v : Int} {j : Nat} {x y : Value} {l : List Int} (ok : OkD (st v)) (hvn : v ∈ p.ns) (hva : valueAt kvs v = none) (hj : (st v).xs[j]? = some x) (hi : y ∈ (st v).xs.take j)
    (hc1 : Comp p.S p.ns (kvs ++ [(v, y)]) st l) (hc2 : Comp p.S p.ns (kvs ++ [(v, x)]) st l) : False := by
  have e1 := comp_at hvn hva hc1 hc2
  obtain ⟨i, hi, e2⟩ := List.mem_iff_getElem.mp hi
  rw [List.length_take] at hi
  rw [List.getElem_take] at e2
  obtain ⟨hjx, e3⟩ := List.getElem?_eq_some_iff.mp hj
  have := (List.pairwise_iff_getElem.mp ok.srt) i j (by simp; omega) (by simp; omega) (by omega)
  simp only [List.getElem_map] at this
  rw [e2, e3] at this
  omega
theorem rem_disj {p : Pb} {fb : Bool} : ∀ {q : List En} {st : Int → DS} {l : List Int}, Stk p fb q st → Comp p.S p.ns (kvsOf q) st l → ¬ Rem p q l
  | [], _, _, _, _ => fun h => h
  | e :: r, st, l, ⟨h1, h2, _, ⟨j, h4, h5⟩, h6⟩, hc => by
    have hc' := (h6 l).mp hc
    rintro (⟨y, hy, h⟩ | h)
    · rw [h4] at hy
      exact comp_srt ((h2.node.room e.v h2.vn).ok) h2.vn h2.va h5 hy h hc'
    · exact rem_disj h1 ((comp_split h2.vn h2.va).mpr ⟨e.x, List.mem_of_getElem? h5, hc'⟩) h
/-- the next value is the last one -/
theorem take_last {xs vals : List Value} {j : Nat} (h : vals = xs.take j) (hne : vals ≠ []) : ∃ vs x i, vals = vs ++ [x] ∧ vs = xs.take i ∧ xs[i]? = some x := by
  have e := (List.dropLast_concat_getLast hne).symm
  refine ⟨vals.dropLast, vals.getLast hne, vals.length - 1, e, ?_, ?_⟩
  · rw [List.dropLast_eq_take, h, List.take_take, List.length_take]
    congr 1; omega
  · have hl : 0 < vals.length := List.length_pos_iff.mpr hne
    rw [List.getLast_eq_getElem]
    subst h
    rw [List.getElem_take]
    rw [List.length_take] at hl
    have : (xs.take j).length - 1 < xs.length := by rw [List.length_take]; omega
    rw [List.getElem?_eq_getElem this]
theorem node_less {p : Pb} {kvs : List (Int × Value)} {v : Int} {x : Value} (hp : p.Ok) (hvn : v ∈ p.ns) (hva : valueAt kvs v = none) : unN p.ns (kvs ++ [(v, x)]) + 1 = unN p.ns kvs := count_less hp.nd hvn hva
/-- a value was good -/
theorem cur_good {p : Pb} {fb fb' : Bool} {kvs : List (Int × Value)} {v : Int} {vals : List Value} {x : Value} {ps : List Int} {st st1 st2 : Int → DS} (hp : p.Ok) (C : Cur p kvs v vals ps st) (hx : x ∈ (st v).xs) (hP : Pushed fb ps st st1) (T : Told p.S (kvs ++ [(v, x)]) p.ns fb' st1 st2 true) :
    Node p (kvs ++ [(v, x)]) st2 := by
  have hl := node_less (x := x) hp C.vn C.va
  have hr : ∀ k ∈ p.ns, Room (st1 k) (unN p.ns (kvs ++ [(v, x)])) := fun k hk => hP.ok (by have := C.node.room k hk; rwa [← hl] at this)
  refine ⟨allI_app C.node.all C.va ((C.node.room v C.vn).ok.int x hx), ?_, fun k hk => (told_room T (hr k hk)).1, fun k hk => Nat.le_trans (told_room T (hr k hk)).2.1 (by rw [hP.xs]; exact C.node.two k hk), ⟨fun k hk y e => ?_, fun k hk y hy => ?_⟩⟩
  · have := C.node.len
    rw [List.length_append, List.length_singleton]; omega
  · rw [va_app C.va] at e
    split at e
    · cases e; exact C.node.nn.dom v C.vn x hx
    · exact C.node.nn.asg k hk y e
  · have := (told_room T (hr k hk)).2.2 y hy
    rw [hP.xs] at this
    exact C.node.nn.dom k hk y this
theorem cur_nn {p : Pb} {fb : Bool} {kvs : List (Int × Value)} {v : Int} {vals : List Value} {x : Value} {ps : List Int} {st st1 : Int → DS} (C : Cur p kvs v vals ps st) (hx : x ∈ (st v).xs) (hP : Pushed fb ps st st1) : NonNeg p.ns (kvs ++ [(v, x)]) st1 :=
  ⟨fun k hk y e => by
    rw [va_app C.va] at e
    split at e
    · cases e; exact C.node.nn.dom v C.vn x hx
    · exact C.node.nn.asg k hk y e, fun k hk y hy => C.node.nn.dom k hk y (by rw [← hP.xs k]; exact hy)⟩
theorem cur_ok {p : Pb} {fb : Bool} {kvs : List (Int × Value)} {v : Int} {vals : List Value} {ps : List Int} {st st1 : Int → DS} (hp : p.Ok) (C : Cur p kvs v vals ps st) (hP : Pushed fb ps st st1) : ∀ k ∈ p.ns, OkD (st1 k) := fun k hk => by
  have hl := node_less (x := .none) hp C.vn C.va
  have := C.node.room k hk
  rw [← hl] at this
  exact (hP.ok this).ok
theorem cur_ne {p : Pb} {fb : Bool} {kvs : List (Int × Value)} {v : Int} {ps : List Int} {st st1 st2 : Int → DS} {x : Value} (hP : Pushed fb ps st st1) (T : Told p.S (kvs ++ [(v, x)]) p.ns (fb && !(ps.map fun k => Value.ref (p.df k).d).isEmpty) st1 st2 true)
    (hne : ∀ k ∈ p.ns, valueAt (kvs ++ [(v, x)]) k = none → (st k).xs ≠ []) : ∀ k ∈ p.ns, valueAt (kvs ++ [(v, x)]) k = none → (st2 k).xs ≠ [] := fun k hk hv => by
  cases hfb : (fb && !(ps.map fun k => Value.ref (p.df k).d).isEmpty) with
  | false =>
    rw [hfb] at T
    obtain ⟨rfl, _⟩ := T.off rfl
    rw [hP.xs]; exact hne k hk hv
  | true =>
    rw [hfb] at T
    obtain ⟨D, rfl, _, h, _⟩ := T.on rfl
    obtain ⟨hD, hk'⟩ := (h rfl).2 k hk hv
    unfold stD
    rw [hD]
    exact hk'
def curK (kvs : List (Int × Value)) (v : Int) : Option Value → List (Int × Value)
  | none => kvs
  | some y => kvs ++ [(v, y)]
theorem cur_len {p : Pb} {r : List En} {v : Int} {vals : List Value} {ps : List Int} {st : Int → DS} (hp : p.Ok) (C : Cur p (kvsOf r) v vals ps st) : r.length + 1 ≤ p.ns.length := by
  have h1 := C.node.len
  have h2 := node_less (x := .none) hp C.vn C.va
  rw [kvs_len] at h1
  omega
theorem cur_un {p : Pb} {kvs : List (Int × Value)} {v : Int} {vals : List Value} {ps : List Int} {st : Int → DS} {x : Value} (C : Cur p kvs v vals ps st) : ∀ k ∈ p.ns, valueAt (kvs ++ [(v, x)]) k = none → (st k).xs ≠ [] := fun k hk h => by
  rw [va_app C.va] at h
  split at h
  · cases h
  · exact C.ne k hk h
theorem curK_len (kvs : List (Int × Value)) (v : Int) (u : Option Value) : (curK kvs v u).length ≤ kvs.length + 1 := by
  cases u <;> simp [curK]
theorem curK_set {kvs : List (Int × Value)} {v : Int} {x : Value} (u : Option Value) (hva : valueAt kvs v = none) : stored (curK kvs v u) v x = kvs ++ [(v, x)] := by
  cases u with
  | none => exact stored_new hva
  | some y => exact stored_again hva
end
section
section
variable {w : World} {g : Heap} {z : Shared} {p : Pb} {A : Around} {s : Shared} {M M' R : List Res}
noncomputable def gW (w : World) : Expr × List Stmt × List Stmt := match bodyOf w 222 with | [_, _, _, .While t b o _, _] => (t, b, o) | _ => (.Constant .none 0 ⟨0, 0, 0, 0⟩, [], [])
noncomputable def gInner (w : World) : List Stmt := match (gW w).2.1 with | [_, _, _, s, _] => [s] | _ => []
noncomputable def gPop (w : World) : List Stmt := match gInner w with | [.While _ (.If _ [_, s] _ _ :: _) _ _] => [s] | _ => []
def enR (p : Pb) (fb : Bool) (e : En) : Res := sR [tR e.ta [.int e.v e.tv, .ref e.va, pdV fb e.P], lR e.va e.vals, pdR fb e.P (e.ps.map fun k => Value.ref (p.df k).d)]
def qsR (p : Pb) (fb : Bool) (q : List En) : Res := sR (q.map (enR p fb))
def qrefs (q : List En) : List Value := (q.map fun e => Value.ref e.ta).reverse
theorem qrefs_cons (e : En) (q : List En) : qrefs (e :: q) = qrefs q ++ [.ref e.ta] := by unfold qrefs; rw [List.map_cons, List.reverse_cons]
theorem qrefs_len (q : List En) : (qrefs q).length = q.length := by unfold qrefs; simp
theorem qs_out {fb : Bool} {e : En} {q : List En} (H : Hs g z M s) (t : Take (qsR p fb (e :: q)) M M') : Hs g z (tR e.ta [.int e.v e.tv, .ref e.va, pdV fb e.P] :: lR e.va e.vals :: pdR fb e.P (e.ps.map fun k => Value.ref (p.df k).d) :: qsR p fb q :: M') s := by
  have H1 := Hs.open_ (H.take t)
  have H2 : Hs g z (enR p fb e :: (q.map (enR p fb) ++ M')) s := H1
  have H3 := Hs.open_ H2
  have H4 : Hs g z ((q.map (enR p fb)) ++ (tR e.ta [.int e.v e.tv, .ref e.va, pdV fb e.P] :: lR e.va e.vals :: pdR fb e.P (e.ps.map fun k => Value.ref (p.df k).d) :: M')) s := by
    refine H3.perm ?_
    exact ((List.perm_append_comm_assoc [tR e.ta [.int e.v e.tv, .ref e.va, pdV fb e.P], lR e.va e.vals, pdR fb e.P (e.ps.map fun k => Value.ref (p.df k).d)] (q.map (enR p fb)) M').symm)
  have H5 : Hs g z (qsR p fb q :: _) s := Hs.shut H4
  exact H5.sub (by walk_at "m_sub")
theorem qs_in {fb : Bool} {e : En} {q : List En} (H : Hs g z M s) (pk : Pick M [tR e.ta [.int e.v e.tv, .ref e.va, pdV fb e.P], lR e.va e.vals, pdR fb e.P (e.ps.map fun k => Value.ref (p.df k).d), qsR p fb q] R) : Hs g z (qsR p fb (e :: q) :: R) s := by
  have H : Hs g z (tR e.ta [.int e.v e.tv, .ref e.va, pdV fb e.P] :: lR e.va e.vals :: pdR fb e.P (e.ps.map fun k => Value.ref (p.df k).d) :: qsR p fb q :: R) s := H.pick pk
  have H1 : Hs g z (enR p fb e :: qsR p fb q :: R) s := Hs.shut (l := [tR e.ta [.int e.v e.tv, .ref e.va, pdV fb e.P], lR e.va e.vals, pdR fb e.P (e.ps.map fun k => Value.ref (p.df k).d)]) H
  have H2 := Hs.open_ (H1.perm (List.Perm.swap _ _ _))
  refine Hs.shut (l := (e :: q).map (enR p fb)) (H2.perm ?_)
  exact List.perm_middle.symm
theorem pops_ {L : Addr} {lf : Option Value → List (Str × Option Value)} {p1 p2 p3 p4 p5 p6 p7 p8 p9 : Pos} {st st2 : Int → DS} {ps : List Int} {o : Option Value} {fb : Bool} {P : Addr} {c : Int} {Q : Flow → Shared → Prop} (hA : Ok 6 A) (B : Base w g) (hp : p.Ok)
    (H : Hs g z (frR L (cellsOf w 222 L) (lf o) :: famR p.df st2 p.ns :: M) s) (tk : Take (pdR fb P (ps.map fun k => Value.ref (p.df k).d)) M M') (hpsn : ∀ k ∈ ps, k ∈ p.ns) (hpnd : ps.Nodup) (hpslen : ps.length ≤ 4) (hAf : After fb ps st st2 c) (hok : ∀ k ∈ p.ns, OkD (st k))
    (hu : ∀ o v, Upl "domain" (some v) (lf o) (lf (some v))) (hx : ∀ v, (("domain" : Str), some v) ∈ lf (some v)) (hy : ∀ o, (("pushdomains" : Str), some (pdV fb P)) ∈ lf o) (hline : (p4.endLine == p5.line) = true)
    (q : ∀ o s', Hs g z (frR L (cellsOf w 222 L) (lf o) :: famR p.df st p.ns :: M) s' → Q .next s') :
    W w A (exec (.If (.Name "pushdomains" p8) [.For (.Name "domain" p1) (.Name "pushdomains" p2) [.Expr (.Call (.Attribute (.Name "domain" p3) "popState" p4) [] [] p5) p6] [] p7] [] p9) (callEnvC (fdOf w 222) L 222)) Q s := by
  refine wpAny_If (isTrue_plain ?_)
  refine nmL H Take.head (hy o) ?_
  refine pd_truthy H (Take.tail (Take.tail tk)) (by simp; omega) fun n => ?_
  have H := H.tok n
  by_cases hpe : (fb && !(ps.map fun k => Value.ref (p.df k).d).isEmpty) = true
  · rw [if_pos hpe]
    have hfb : fb = true := by cases fb <;> simp_all
    have hpv : pdV fb P = .ref P := by rw [hfb]; rfl
    have hpr : pdR fb P (ps.map fun k => Value.ref (p.df k).d) = lR P (ps.map fun k => Value.ref (p.df k).d) := by rw [hfb]; rfl
    rw [hpr] at tk
    rw [hpv] at hy
    refine wpAny_execs_cons ?_
    refine loop_dom (L := L) (cs := cellsOf w 222 L) (lf := lf) (f := 346) (ps := ps) (fA := P) (st := st2) (o := o) (ns := p.ns) (df := p.df)
      (fun i st' => (∀ k ∈ ps.take i, st' k = st k) ∧ ∀ k, k ∉ ps.take i → st' k = st2 k) hA.hd B H tk hpsn ⟨fun k hk => by simp at hk, fun k _ => rfl⟩
      hu hx hy rfl (by kernel_rfl) (by kernel_rfl) (by kernel_rfl) (by kernel_rfl) (by kernel_rfl) (by kernel_rfl) (by kernel_rfl) (by intros; kernel_rfl) (by kernel_rfl) (by kernel_rfl) (by kernel_rfl) hline ?_ ?_
    · rintro j k st' N s' Q' hk ⟨h1, h2⟩ H q'
      have hkm := List.mem_of_getElem? hk
      have hkn := hpsn k hkm
      have e := h2 k (not_mem_take hpnd hk)
      have ho := hok k hkn
      have hol := ho.len
      have hos := ho.lss
      obtain ⟨t, b, e2⟩ := hAf.on hfb k hkm
      obtain ⟨xs, bs, e3, e4⟩ := popable (c := c) (d := st k) (t := t) b
      have e5 := congrArg List.length e4
      rw [List.length_append] at e5
      refine fam_pop (hA.le (by omega)) B H Take.head hp.nd hkn (by rw [e, e2, e3]) (by omega) (by omega) fun s'' H => q' _ s'' ⟨fun k' hk' => ?_, fun k' hk' => ?_⟩ H
      · rw [List.take_add_one, hk] at hk'
        by_cases ek : k' = k
        · subst ek; unfold upd; rw [if_pos rfl, e4]
        · unfold upd; rw [if_neg ek]
          exact h1 k' ((List.mem_append.mp hk').resolve_right (by simpa using ek))
      · rw [List.take_add_one, hk] at hk'
        have ek : k' ≠ k := by rintro rfl; exact hk' (by simp)
        unfold upd; rw [if_neg ek]
        exact h2 k' fun h => hk' (List.mem_append_left _ h)
    · rintro o st' s' ⟨h1, h2⟩ H
      rw [List.take_length] at h1 h2
      have est : st' = st := funext fun k => by
        by_cases hk : k ∈ ps
        · exact h1 k hk
        · rw [h2 k hk]; exact hAf.off k fun h => hk h.2
      rw [est] at H
      show W _ _ _ _ _
      refine wpAny_execs_nil ?_
      exact q o s' H
  · rw [if_neg hpe]
    have est : st2 = st := funext fun k => hAf.off k fun h => by
      rw [h.1] at hpe
      cases hpp : ps with
      | nil => rw [hpp] at h; exact absurd h.2 (by simp)
      | cons a r => rw [hpp] at hpe; simp at hpe
    rw [est] at H
    refine wpAny_execs_nil ?_
    exact q o _ H
theorem pushes_ {L : Addr} {lf : Option Value → List (Str × Option Value)} {p1 p2 p3 p4 p5 p6 p7 p8 p9 : Pos} {st : Int → DS} {ps : List Int} {o : Option Value} {fb : Bool} {P : Addr} {Q : Flow → Shared → Prop} (hA : Ok 6 A) (B : Base w g) (hp : p.Ok)
    (H : Hs g z (frR L (cellsOf w 222 L) (lf o) :: famR p.df st p.ns :: M) s) (tk : Take (pdR fb P (ps.map fun k => Value.ref (p.df k).d)) M M') (hpsn : ∀ k ∈ ps, k ∈ p.ns) (hpnd : ps.Nodup) (hpslen : ps.length ≤ 4) (hok : ∀ k ∈ p.ns, OkD (st k))
    (hu : ∀ o v, Upl "domain" (some v) (lf o) (lf (some v))) (hx : ∀ v, (("domain" : Str), some v) ∈ lf (some v)) (hy : ∀ o, (("pushdomains" : Str), some (pdV fb P)) ∈ lf o) (hline : (p4.endLine == p5.line) = true)
    (q : ∀ o st1 s', Pushed fb ps st st1 → Hs g z (frR L (cellsOf w 222 L) (lf o) :: famR p.df st1 p.ns :: M) s' → Q .next s') :
    W w A (exec (.If (.Name "pushdomains" p8) [.For (.Name "domain" p1) (.Name "pushdomains" p2) [.Expr (.Call (.Attribute (.Name "domain" p3) "pushState" p4) [] [] p5) p6] [] p7] [] p9) (callEnvC (fdOf w 222) L 222)) Q s := by
  refine wpAny_If (isTrue_plain ?_)
  refine nmL H Take.head (hy o) ?_
  refine pd_truthy H (Take.tail (Take.tail tk)) (by simp; omega) fun n => ?_
  have H := H.tok n
  by_cases hpe : (fb && !(ps.map fun k => Value.ref (p.df k).d).isEmpty) = true
  · rw [if_pos hpe]
    have hfb : fb = true := by cases fb <;> simp_all
    have hpv : pdV fb P = .ref P := by rw [hfb]; rfl
    have hpr : pdR fb P (ps.map fun k => Value.ref (p.df k).d) = lR P (ps.map fun k => Value.ref (p.df k).d) := by rw [hfb]; rfl
    rw [hpr] at tk
    rw [hpv] at hy
    refine wpAny_execs_cons ?_
    refine loop_dom (L := L) (cs := cellsOf w 222 L) (lf := lf) (f := 339) (ps := ps) (fA := P) (st := st) (o := o) (ns := p.ns) (df := p.df)
      (fun i st' => (∀ k ∈ ps.take i, ∃ t, st' k = pushD (st k) t) ∧ ∀ k, k ∉ ps.take i → st' k = st k) hA.hd B H tk hpsn ⟨fun k hk => by simp at hk, fun k _ => rfl⟩
      hu hx hy rfl (by kernel_rfl) (by kernel_rfl) (by kernel_rfl) (by kernel_rfl) (by kernel_rfl) (by kernel_rfl) (by kernel_rfl) (by intros; kernel_rfl) (by kernel_rfl) (by kernel_rfl) (by kernel_rfl) hline ?_ ?_
    · rintro j k st' N s' Q' hk ⟨h1, h2⟩ H q'
      have hkn := hpsn k (List.mem_of_getElem? hk)
      have hkt := not_mem_take hpnd hk
      have e := h2 k hkt
      have ho := hok k hkn
      have hol := ho.len
      have hos := ho.lss
      refine fam_push (hA.le (by omega)) B H Take.head hp.nd hkn (by rw [e]; omega) (by rw [e]; omega) fun t s'' H => q' _ s'' ⟨fun k' hk' => ?_, fun k' hk' => ?_⟩ H
      · rw [List.take_add_one, hk] at hk'
        by_cases ek : k' = k
        · subst ek; exact ⟨t, by unfold upd; rw [if_pos rfl, e]⟩
        · obtain ⟨t', e'⟩ := h1 k' ((List.mem_append.mp hk').resolve_right (by simpa using ek))
          exact ⟨t', by unfold upd; rw [if_neg ek, e']⟩
      · rw [List.take_add_one, hk] at hk'
        have ek : k' ≠ k := by rintro rfl; exact hk' (by simp)
        unfold upd; rw [if_neg ek]
        exact h2 k' fun h => hk' (List.mem_append_left _ h)
    · rintro o st' s' ⟨h1, h2⟩ H
      rw [List.take_length] at h1 h2
      show W _ _ _ _ _
      refine wpAny_execs_nil ?_
      exact q o st' s' ⟨fun _ => h1, fun k hk => h2 k fun h => hk ⟨hfb, h⟩⟩ H
  · rw [if_neg hpe]
    refine wpAny_execs_nil ?_
    refine q o st _ ⟨fun hfb k hk => ?_, fun _ _ => rfl⟩ H
    rw [hfb] at hpe
    cases ps with
    | nil => cases hk
    | cons a r => simp at hpe
end
end
section
section
variable {w : World} {g : Heap} {z : Shared} {p : Pb} {A : Around} {s : Shared} {M M' R : List Res}
/-- back to the last variable that has a value left -/
theorem popW {stm : Stmt} {L sv sd qA aA : Addr} {oca : Option Value} {fb : Bool} {r0 : List En} {st0 : Int → DS} {ep0 : Nat} {ol oi ov ova opd od oc ovs : Option Value} {Q : Flow → Shared → Prop} (hst : gPop w = [stm]) (hA : Ok 20 A) (B : Base w g) (hp : p.Ok)
    (hS : Stk p fb r0 st0) (hlen : r0.length ≤ p.ns.length)
    (H : Hs g z (frR L (cellsOf w 222 L) [("self", some (.ref sv)), ("domains", some (.ref p.DA)), ("constraints", oca), ("vconstraints", some (.ref p.VA)), ("forwardcheck", some (.bool fb)), ("assignments", some (.ref aA)), ("queue", some (.ref qA)), ("lst", ol), ("item", oi), ("variable", ov), ("values", ova), ("pushdomains", opd), ("domain", od), ("constraint", oc), ("variables", ovs)] :: iR sv 239 sd :: fcR sd fb :: iR p.c 463 p.cd :: csR p.cd (.int p.S p.ts) :: lR p.nA p.nm :: dR w p.DA p.dk p.dep :: dR w p.VA p.vk p.vep :: vcsR p :: famR p.df st0 p.ns :: dR w aA (kvsOf r0) ep0 :: lR qA (qrefs r0) :: qsR p fb r0 :: R) s)
    (q1 : ∀ (e : En) (r : List En) ep od s', Stk p fb r e.st → Cur p (kvsOf r) e.v e.vals e.ps e.st → e.vals ≠ [] → (∀ l, Rem p r0 l ↔ Rem p (e :: r) l) → mu p.ns.length (e :: r) ≤ mu p.ns.length r0 → r.length < r0.length →
      Hs g z (frR L (cellsOf w 222 L) [("self", some (.ref sv)), ("domains", some (.ref p.DA)), ("constraints", oca), ("vconstraints", some (.ref p.VA)), ("forwardcheck", some (.bool fb)), ("assignments", some (.ref aA)), ("queue", some (.ref qA)), ("lst", ol), ("item", oi), ("variable", some (.int e.v e.tv)), ("values", some (.ref e.va)), ("pushdomains", some (pdV fb e.P)), ("domain", od), ("constraint", oc), ("variables", ovs)] :: lR e.va e.vals :: pdR fb e.P (e.ps.map fun k => Value.ref (p.df k).d) :: iR sv 239 sd :: fcR sd fb :: iR p.c 463 p.cd :: csR p.cd (.int p.S p.ts) :: lR p.nA p.nm :: dR w p.DA p.dk p.dep :: dR w p.VA p.vk p.vep :: vcsR p :: famR p.df e.st p.ns :: dR w aA (kvsOf (e :: r)) ep :: lR qA (qrefs r) :: qsR p fb r :: R) s' → Q .next s')
    (q2 : (∀ l, ¬ Rem p r0 l) → ∀ s', Hs g z (lR p.nA p.nm :: R) s' → Q (.ret .none) s') : W w A (execs [stm] (callEnvC (fdOf w 222) L 222)) Q s := by
  rw [← hst]
  have hl4 := hp.l4
  with_unfolding_all refine wpAny_execs_cons ?_
  refine wpAny_mono (Q := fun f s => (f = .next ∧ Q .next s) ∨ (f = .ret .none ∧ Q (.ret .none) s)) (wpAny_While ?_) (fun f s h => ?_) fun _ _ f => f
  case refine_2 =>
    rcases h with ⟨rfl, h⟩ | ⟨rfl, h⟩
    · exact wpAny_execs_nil h
    · exact h
  refine codeAny_whileLoop (fun m s => ∃ r st ep ov ova opd od, m = r.length ∧ Stk p fb r st ∧ (∀ l, Rem p r0 l ↔ Rem p r l) ∧ mu p.ns.length r ≤ mu p.ns.length r0 ∧ r.length ≤ r0.length ∧
    Hs g z (frR L (cellsOf w 222 L) [("self", some (.ref sv)), ("domains", some (.ref p.DA)), ("constraints", oca), ("vconstraints", some (.ref p.VA)), ("forwardcheck", some (.bool fb)), ("assignments", some (.ref aA)), ("queue", some (.ref qA)), ("lst", ol), ("item", oi), ("variable", ov), ("values", ova), ("pushdomains", opd), ("domain", od), ("constraint", oc), ("variables", ovs)] :: iR sv 239 sd :: fcR sd fb :: iR p.c 463 p.cd :: csR p.cd (.int p.S p.ts) :: lR p.nA p.nm :: dR w p.DA p.dk p.dep :: dR w p.VA p.vk p.vep :: vcsR p :: famR p.df st p.ns :: dR w aA (kvsOf r) ep :: lR qA (qrefs r) :: qsR p fb r :: R) s) ?_ r0.length ⟨r0, st0, ep0, ov, ova, opd, od, rfl, hS, fun _ => Iff.rfl, Nat.le_refl _, Nat.le_refl _, H⟩
  rintro m s ⟨r, st, ep, ov, ova, opd, od, rfl, hS, hR, hM, hL, H⟩
  refine W.any (isTrue_plain ?_)
  refine nmL (by assumption) (by walk_at "m_take") (by walk_at "m_mem") ?_
  obtain ⟨n1, e1⟩ := qR_at (a := qA) H (by walk_at "m_take")
  have hql := qrefs_len r
  refine lst_truthy e1 (by omega) fun n => ?_
  have H := H.tok n
  cases r with
  | nil =>
    rw [if_neg (by decide)]
    refine W.any ?_
    refine wpAny_execs_cons ?_
    refine wpAny_Return_none ?_
    exact .inr ⟨rfl, q2 (fun l h => (hR l).mp h) _ (H.sub (by walk_at "m_sub"))⟩
  | cons e r =>
    obtain ⟨h1, h2, h3, ⟨j, h4, h5⟩, h6⟩ := hS
    rw [if_pos (by rw [qrefs_cons]; cases qrefs r <;> rfl)]
    refine W.any ?_
    refine wpAny_execs_cons ?_
    refine Assign_Tuple ?_ (by kernel_rfl) (by kernel_rfl)
    refine callM ?_
    refine nmL (by assumption) (by walk_at "m_take") (by walk_at "m_mem") ?_
    refine lst_meth H (by walk_at "m_take") PySem.F.slot_list_pop PySem.F.type_list_pop ?_
    rw [qrefs_cons] at H
    have hsl : sizeLine = 2 ^ 24 := rfl
    rw [List.length_cons] at hL
    refine pop_ (l := qA) (vs := qrefs r) (v := .ref e.ta) H (by walk_at "m_take") (by rw [qrefs_len]; omega) fun s2 H => ?_
    have H := qs_out (e := e) H (by walk_at "m_take")
    obtain ⟨n3, e3⟩ := qR_at (a := e.ta) H Take.head
    refine asg_tup hA.hd H e3 fun s4 H => ?_
    refine wpAny_assignInOrder_more (wpAny_assign_Name ?_)
    refine stC (L := L) H (by walk_at "m_take") (by walk_at "m_upl") fun s5 H => ?_
    refine wpAny_assignInOrder_more (wpAny_assign_Name ?_)
    refine stL (L := L) H (by walk_at "m_take") (by walk_at "m_upl") fun s6 H => ?_
    refine wpAny_assignInOrder_more (wpAny_assign_Name ?_)
    refine stL (L := L) H (by walk_at "m_take") (by walk_at "m_upl") fun s7 H => ?_
    refine wpAny_assignInOrder_none ?_
    show W _ _ _ _ _
    refine wpAny_execs_cons ?_
    have H : Hs g z (frR L (cellsOf w 222 L) [("self", some (.ref sv)), ("domains", some (.ref p.DA)), ("constraints", oca), ("vconstraints", some (.ref p.VA)), ("forwardcheck", some (.bool fb)), ("assignments", some (.ref aA)), ("queue", some (.ref qA)), ("lst", ol), ("item", oi), ("variable", some (.int e.v e.tv)), ("values", some (.ref e.va)), ("pushdomains", some (pdV fb e.P)), ("domain", od), ("constraint", oc), ("variables", ovs)] :: famR p.df st p.ns :: pdR fb e.P (e.ps.map fun k => Value.ref (p.df k).d) :: lR e.va e.vals :: iR sv 239 sd :: fcR sd fb :: iR p.c 463 p.cd :: csR p.cd (.int p.S p.ts) :: lR p.nA p.nm :: dR w p.DA p.dk p.dep :: dR w p.VA p.vk p.vep :: vcsR p :: dR w aA (kvsOf (e :: r)) ep :: lR qA (qrefs r) :: qsR p fb r :: R) s7 := H.sub (by walk_at "m_sub")
    refine pops_ (lf := fun od => [("self", some (.ref sv)), ("domains", some (.ref p.DA)), ("constraints", oca), ("vconstraints", some (.ref p.VA)), ("forwardcheck", some (.bool fb)), ("assignments", some (.ref aA)), ("queue", some (.ref qA)), ("lst", ol), ("item", oi), ("variable", some (.int e.v e.tv)), ("values", some (.ref e.va)), ("pushdomains", some (pdV fb e.P)), ("domain", od), ("constraint", oc), ("variables", ovs)]) (P := e.P) (ps := e.ps) (st := e.st) (c := e.c) (hA.le (by omega)) B hp H Take.head h2.ps.sub h2.ps.nd h2.ps.len h3 (fun k hk => (h2.node.room k hk).ok) (fun o v => (by walk_at "m_upl")) (fun v => (by walk_at "m_mem")) (fun o => (by walk_at "m_mem")) rfl fun od s8 H => ?_
    show W _ _ _ _ _
    refine wpAny_execs_cons ?_
    refine wpAny_If (isTrue_plain ?_)
    refine nmL (by assumption) (by walk_at "m_take") (by walk_at "m_mem") ?_
    obtain ⟨n9, e9⟩ := qR_at (a := e.va) H (by walk_at "m_take")
    have hv2 := h2.node.two e.v h2.vn
    refine lst_truthy e9 (by rw [h4, List.length_take]; omega) fun n => ?_
    have H := H.tok n
    by_cases hne : e.vals = []
    · rw [if_neg (by rw [hne]; decide)]
      refine wpAny_execs_nil ?_
      show W _ _ _ _ _
      refine wpAny_execs_cons ?_
      refine wpAny_Delete (wpAny_deleteEach_cons (wpAny_delete_Subscript ?_))
      refine nmC (L := L) (by assumption) (by walk_at "m_take") (by walk_at "m_mem") ?_
      refine nmC (L := L) (by assumption) (by walk_at "m_take") (by walk_at "m_mem") ?_
      have hkl := kvs_len (e :: r)
      have hkv : kvsOf (e :: r) = kvsOf r ++ [(e.v, e.x)] := rfl
      rw [hkv] at H
      refine d_del H (by walk_at "m_take") (by rw [← hkv, hkl, List.length_cons]; omega) (by rw [va_self h2.va]; rfl) fun ep3 s33 H => ?_
      rw [without_app h2.va] at H
      refine wpAny_deleteEach_nil ?_
      show W _ _ _ _ _
      refine wpAny_execs_nil ?_
      refine ⟨r.length, Nat.lt_succ_self _, r, e.st, ep3, _, _, _, _, rfl, h1, fun l => (hR l).trans ⟨fun h => ?_, fun h => .inr h⟩, Nat.le_trans ?_ hM, by omega, H.sub (by walk_at "m_sub")⟩
      · rcases h with ⟨y, hy, _⟩ | h
        · rw [hne] at hy; cases hy
        · exact h
      · rw [mu]; exact Nat.le_add_left _ _
    · rw [if_pos (by cases hv : e.vals with | nil => exact absurd hv hne | cons a b => rfl)]
      refine wpAny_execs_cons ?_
      refine wpAny_Break ?_
      exact .inl ⟨rfl, q1 e r ep od _ h1 h2 hne hR hM (by omega) (H.sub (by walk_at "m_sub"))⟩
end
end
section
section
variable {w : World} {g : Heap} {z : Shared} {p : Pb} {A : Around} {s : Shared} {M M' R : List Res}
theorem innerW {stm : Stmt} {L sv sd qA aA : Addr} {oca : Option Value} {fb : Bool} {r0 : List En} {v0 : Int} {tv0 : Tok} {va0 P0 : Addr} {vals0 : List Value} {ps0 : List Int} {st0 : Int → DS} {used0 : Option Value} {ep0 : Nat} {ol oi od0 oc0 ovs0 : Option Value} {Q : Flow → Shared → Prop} (hst : gInner w = [stm]) (hA : Ok 40 A) (B : Base w g) (hp : p.Ok)
    (hS0 : Stk p fb r0 st0) (hC0 : Cur p (kvsOf r0) v0 vals0 ps0 st0) (hu0 : used0 = none → vals0 ≠ [])
    (H : Hs g z (frR L (cellsOf w 222 L) [("self", some (.ref sv)), ("domains", some (.ref p.DA)), ("constraints", oca), ("vconstraints", some (.ref p.VA)), ("forwardcheck", some (.bool fb)), ("assignments", some (.ref aA)), ("queue", some (.ref qA)), ("lst", ol), ("item", oi), ("variable", some (.int v0 tv0)), ("values", some (.ref va0)), ("pushdomains", some (pdV fb P0)), ("domain", od0), ("constraint", oc0), ("variables", ovs0)] :: lR va0 vals0 :: pdR fb P0 (ps0.map fun k => Value.ref (p.df k).d) :: iR sv 239 sd :: fcR sd fb :: iR p.c 463 p.cd :: csR p.cd (.int p.S p.ts) :: lR p.nA p.nm :: dR w p.DA p.dk p.dep :: dR w p.VA p.vk p.vep :: vcsR p :: famR p.df st0 p.ns :: dR w aA (curK (kvsOf r0) v0 used0) ep0 :: lR qA (qrefs r0) :: qsR p fb r0 :: R) s)
    (q1 : ∀ (e : En) (r : List En) (st2 : Int → DS) ep od oc ovs s', Stk p fb (e :: r) st2 → Node p (kvsOf (e :: r)) st2 → (∀ k ∈ p.ns, valueAt (kvsOf (e :: r)) k = none → (st2 k).xs ≠ []) → (miss (kvsOf (e :: r)) p.ns = false → psum (kvsOf (e :: r)) p.ns = p.S) →
      (∀ l, ((∃ y ∈ vals0, Comp p.S p.ns (kvsOf r0 ++ [(v0, y)]) st0 l) ∨ Rem p r0 l) ↔ (Comp p.S p.ns (kvsOf (e :: r)) st2 l ∨ Rem p (e :: r) l)) → mu p.ns.length (e :: r) + TT (p.ns.length - (r.length + 1)) ≤ vals0.length * TT (p.ns.length - (r0.length + 1)) + mu p.ns.length r0 →
      Hs g z (frR L (cellsOf w 222 L) [("self", some (.ref sv)), ("domains", some (.ref p.DA)), ("constraints", oca), ("vconstraints", some (.ref p.VA)), ("forwardcheck", some (.bool fb)), ("assignments", some (.ref aA)), ("queue", some (.ref qA)), ("lst", ol), ("item", oi), ("variable", some (.int e.v e.tv)), ("values", some (.ref e.va)), ("pushdomains", some (pdV fb e.P)), ("domain", od), ("constraint", oc), ("variables", ovs)] :: lR e.va e.vals :: pdR fb e.P (e.ps.map fun k => Value.ref (p.df k).d) :: iR sv 239 sd :: fcR sd fb :: iR p.c 463 p.cd :: csR p.cd (.int p.S p.ts) :: lR p.nA p.nm :: dR w p.DA p.dk p.dep :: dR w p.VA p.vk p.vep :: vcsR p :: famR p.df st2 p.ns :: dR w aA (kvsOf (e :: r)) ep :: lR qA (qrefs r) :: qsR p fb r :: R) s' → Q .next s')
    (q2 : (∀ l, ¬ ((∃ y ∈ vals0, Comp p.S p.ns (kvsOf r0 ++ [(v0, y)]) st0 l) ∨ Rem p r0 l)) → ∀ s', Hs g z (lR p.nA p.nm :: R) s' → Q (.ret .none) s') : W w A (execs [stm] (callEnvC (fdOf w 222) L 222)) Q s := by
  rw [← hst]
  have hl4 := hp.l4
  have hsl : sizeLine = 2 ^ 24 := rfl
  with_unfolding_all refine wpAny_execs_cons ?_
  refine wpAny_mono (Q := fun f s => (f = .next ∧ Q .next s) ∨ (f = .ret .none ∧ Q (.ret .none) s)) (wpAny_While ?_) (fun f s h => ?_) fun _ _ f => f
  case refine_2 =>
    rcases h with ⟨rfl, h⟩ | ⟨rfl, h⟩
    · exact wpAny_execs_nil h
    · exact h
  refine codeAny_whileLoop (fun m s => ∃ r v tv va P vals ps st used ep od oc ovs, Stk p fb r st ∧ Cur p (kvsOf r) v vals ps st ∧ (used = none → vals ≠ []) ∧
    (∀ l, ((∃ y ∈ vals0, Comp p.S p.ns (kvsOf r0 ++ [(v0, y)]) st0 l) ∨ Rem p r0 l) ↔ ((∃ y ∈ vals, Comp p.S p.ns (kvsOf r ++ [(v, y)]) st l) ∨ Rem p r l)) ∧ m = vals.length * TT (p.ns.length - (r.length + 1)) + mu p.ns.length r ∧ m ≤ vals0.length * TT (p.ns.length - (r0.length + 1)) + mu p.ns.length r0 ∧
    Hs g z (frR L (cellsOf w 222 L) [("self", some (.ref sv)), ("domains", some (.ref p.DA)), ("constraints", oca), ("vconstraints", some (.ref p.VA)), ("forwardcheck", some (.bool fb)), ("assignments", some (.ref aA)), ("queue", some (.ref qA)), ("lst", ol), ("item", oi), ("variable", some (.int v tv)), ("values", some (.ref va)), ("pushdomains", some (pdV fb P)), ("domain", od), ("constraint", oc), ("variables", ovs)] :: lR va vals :: pdR fb P (ps.map fun k => Value.ref (p.df k).d) :: iR sv 239 sd :: fcR sd fb :: iR p.c 463 p.cd :: csR p.cd (.int p.S p.ts) :: lR p.nA p.nm :: dR w p.DA p.dk p.dep :: dR w p.VA p.vk p.vep :: vcsR p :: famR p.df st p.ns :: dR w aA (curK (kvsOf r) v used) ep :: lR qA (qrefs r) :: qsR p fb r :: R) s) ?_ _
    ⟨r0, v0, tv0, va0, P0, vals0, ps0, st0, used0, ep0, od0, oc0, ovs0, hS0, hC0, hu0, fun _ => Iff.rfl, rfl, Nat.le_refl _, H⟩
  rintro m s ⟨r, v, tv, va, P, vals, ps, st, used, ep, od, oc, ovs, hS, hC, hu, hR, hm, hM, H⟩
  refine W.any (isTrue_plain (wpAny_Constant_bool (wpAny_truthy_bool ?_)))
  rw [if_pos rfl]
  refine W.any ?_
  refine wpAny_execs_cons ?_
  refine wpAny_mono (Q := fun f s => (f = .next ∧ ∃ r v tv va P vals ps st used ep od oc ovs, Stk p fb r st ∧ Cur p (kvsOf r) v vals ps st ∧ vals ≠ [] ∧
    (∀ l, ((∃ y ∈ vals0, Comp p.S p.ns (kvsOf r0 ++ [(v0, y)]) st0 l) ∨ Rem p r0 l) ↔ ((∃ y ∈ vals, Comp p.S p.ns (kvsOf r ++ [(v, y)]) st l) ∨ Rem p r l)) ∧ vals.length * TT (p.ns.length - (r.length + 1)) + mu p.ns.length r ≤ m ∧
    Hs g z (frR L (cellsOf w 222 L) [("self", some (.ref sv)), ("domains", some (.ref p.DA)), ("constraints", oca), ("vconstraints", some (.ref p.VA)), ("forwardcheck", some (.bool fb)), ("assignments", some (.ref aA)), ("queue", some (.ref qA)), ("lst", ol), ("item", oi), ("variable", some (.int v tv)), ("values", some (.ref va)), ("pushdomains", some (pdV fb P)), ("domain", od), ("constraint", oc), ("variables", ovs)] :: lR va vals :: pdR fb P (ps.map fun k => Value.ref (p.df k).d) :: iR sv 239 sd :: fcR sd fb :: iR p.c 463 p.cd :: csR p.cd (.int p.S p.ts) :: lR p.nA p.nm :: dR w p.DA p.dk p.dep :: dR w p.VA p.vk p.vep :: vcsR p :: famR p.df st p.ns :: dR w aA (curK (kvsOf r) v used) ep :: lR qA (qrefs r) :: qsR p fb r :: R) s) ∨ (f = .ret .none ∧ Q (.ret .none) s)) ?_ (fun f s h => ?_) fun _ _ f => f
  · refine wpAny_If (isTrue_not (isTrue_plain ?_))
    refine nmL (by assumption) (by walk_at "m_take") (by walk_at "m_mem") ?_
    obtain ⟨n1, e1⟩ := qR_at (a := va) H (by walk_at "m_take")
    have hv2 := hC.node.two v hC.vn
    obtain ⟨j, hj⟩ := hC.vals
    have hvl : vals.length ≤ 2 := by rw [hj, List.length_take]; omega
    refine lst_truthy e1 (by omega) fun n => ?_
    have H := H.tok n
    by_cases hne : vals = []
    · rw [if_pos (by rw [hne]; decide)]
      obtain ⟨y, rfl⟩ : ∃ y, used = some y := by
        cases used with
        | none => exact absurd hne (hu rfl)
        | some y => exact ⟨y, rfl⟩
      refine wpAny_execs_cons ?_
      refine wpAny_Delete (wpAny_deleteEach_cons (wpAny_delete_Subscript ?_))
      refine nmC (L := L) (by assumption) (by walk_at "m_take") (by walk_at "m_mem") ?_
      refine nmC (L := L) (by assumption) (by walk_at "m_take") (by walk_at "m_mem") ?_
      have hkl := kvs_len r
      have hcl := cur_len hp hC
      have hcu : curK (kvsOf r) v (some y) = kvsOf r ++ [(v, y)] := rfl
      rw [hcu] at H
      refine d_del H (by walk_at "m_take") (by rw [List.length_append, List.length_singleton]; omega) (by rw [va_self hC.va]; rfl) fun ep3 s33 H => ?_
      rw [without_app hC.va] at H
      refine wpAny_deleteEach_nil ?_
      show W _ _ _ _ _
      have hR' : ∀ l, ((∃ y ∈ vals, Comp p.S p.ns (kvsOf r ++ [(v, y)]) st l) ∨ Rem p r l) ↔ Rem p r l := fun l => ⟨fun h => by
        rcases h with ⟨y, hy, _⟩ | h
        · rw [hne] at hy; cases hy
        · exact h, .inr⟩
      have hm' : mu p.ns.length r ≤ m := by rw [hm]; exact Nat.le_add_left _ _
      refine popW (L := L) (R := R) (by kernel_rfl) (hA.le (by omega)) B hp hS (by omega) (H.sub (by walk_at "m_sub")) (fun e r' ep od s' h1 h2 h3 h4 h5 h6 H => ?_) (fun h s' H => ?_)
      · exact .inl ⟨rfl, r', e.v, e.tv, e.va, e.P, e.vals, e.ps, e.st, some e.x, ep, od, oc, ovs, h1, h2, h3, fun l => (hR l).trans ((hR' l).trans (h4 l)), Nat.le_trans h5 hm', H⟩
      · exact .inr ⟨rfl, q2 (fun l hl => h l ((hR' l).mp ((hR l).mp hl))) s' H⟩
    · rw [if_neg (by cases hv : vals with | nil => exact absurd hv hne | cons a b => simp)]
      refine wpAny_execs_nil ?_
      exact .inl ⟨rfl, r, v, tv, va, P, vals, ps, st, used, ep, od, oc, ovs, hS, hC, hne, hR, Nat.le_of_eq hm.symm, H.sub (by walk_at "m_sub")⟩
  rcases h with ⟨rfl, h⟩ | ⟨rfl, h⟩
  case inr => exact .inr ⟨rfl, h⟩
  clear hS hC hu hR hm H
  obtain ⟨r, v, tv, va, P, vals, ps, st, used, ep, od, oc, ovs, hS, hC, hne, hR, hm, H⟩ := h
  have hM : vals.length * TT (p.ns.length - (r.length + 1)) + mu p.ns.length r ≤ vals0.length * TT (p.ns.length - (r0.length + 1)) + mu p.ns.length r0 := Nat.le_trans hm hM
  obtain ⟨j, hj⟩ := hC.vals
  obtain ⟨vs, x, i, hvs, hvi, hxi⟩ := take_last hj hne
  have hxm : x ∈ (st v).xs := List.mem_of_getElem? hxi
  have hv2 := hC.node.two v hC.vn
  have hvl : vals.length ≤ 2 := by rw [hj, List.length_take]; omega
  have hvsl : vals.length = vs.length + 1 := by rw [hvs]; simp
  have hkl := kvs_len r
  have hcl := cur_len hp hC
  have hok : ∀ k ∈ p.ns, OkD (st k) := fun k hk => (hC.node.room k hk).ok
  have hps := hC.ps
  have hpl := hps.len
  show W _ _ _ _ _
  refine wpAny_execs_cons ?_
  refine wpAny_Assign_Subscript ?_ (by kernel_rfl)
  refine callM ?_
  refine nmL (by assumption) (by walk_at "m_take") (by walk_at "m_mem") ?_
  refine lst_meth H (by walk_at "m_take") PySem.F.slot_list_pop PySem.F.type_list_pop ?_
  rw [hvs] at H
  refine pop_ (l := va) (vs := vs) (v := x) H (by walk_at "m_take") (by omega) fun s2 H => ?_
  refine nmC (L := L) (by assumption) (by walk_at "m_take") (by walk_at "m_mem") ?_
  refine nmC (L := L) (by assumption) (by walk_at "m_take") (by walk_at "m_mem") ?_
  have hcl2 := curK_len (kvsOf r) v used
  refine d_set H (by walk_at "m_take") (by omega) fun ep2 s32 H => ?_
  rw [curK_set used hC.va] at H
  show W _ _ _ _ _
  refine wpAny_execs_cons ?_
  have H : Hs g z (frR L (cellsOf w 222 L) [("self", some (.ref sv)), ("domains", some (.ref p.DA)), ("constraints", oca), ("vconstraints", some (.ref p.VA)), ("forwardcheck", some (.bool fb)), ("assignments", some (.ref aA)), ("queue", some (.ref qA)), ("lst", ol), ("item", oi), ("variable", some (.int v tv)), ("values", some (.ref va)), ("pushdomains", some (pdV fb P)), ("domain", od), ("constraint", oc), ("variables", ovs)] :: famR p.df st p.ns :: pdR fb P (ps.map fun k => Value.ref (p.df k).d) :: lR va vs :: iR sv 239 sd :: fcR sd fb :: iR p.c 463 p.cd :: csR p.cd (.int p.S p.ts) :: lR p.nA p.nm :: dR w p.DA p.dk p.dep :: dR w p.VA p.vk p.vep :: vcsR p :: dR w aA (kvsOf r ++ [(v, x)]) ep2 :: lR qA (qrefs r) :: qsR p fb r :: R) s32 := H.sub (by walk_at "m_sub")
  refine pushes_ (lf := fun od => [("self", some (.ref sv)), ("domains", some (.ref p.DA)), ("constraints", oca), ("vconstraints", some (.ref p.VA)), ("forwardcheck", some (.bool fb)), ("assignments", some (.ref aA)), ("queue", some (.ref qA)), ("lst", ol), ("item", oi), ("variable", some (.int v tv)), ("values", some (.ref va)), ("pushdomains", some (pdV fb P)), ("domain", od), ("constraint", oc), ("variables", ovs)]) (P := P) (ps := ps) (st := st) (hA.le (by omega)) B hp H Take.head hps.sub hps.nd hps.len hok (fun o v => (by walk_at "m_upl")) (fun v => (by walk_at "m_mem")) (fun o => (by walk_at "m_mem")) rfl fun od st1 s8 hP H => ?_
  show W _ _ _ _ _
  refine wpAny_execs_cons ?_
  have hnnx := cur_nn (x := x) hC hxm hP
  have hokp := cur_ok hp hC hP
  have hcong : ∀ l, Comp p.S p.ns (kvsOf r ++ [(v, x)]) st1 l ↔ Comp p.S p.ns (kvsOf r ++ [(v, x)]) st l := fun l => Comp.congr fun k _ _ => hP.xs k
  have hm2 : (fb && !(ps.map fun k => Value.ref (p.df k).d).isEmpty) = true → miss (kvsOf r ++ [(v, x)]) p.ns = true := fun h => by
    cases hpp : ps with
    | nil => rw [hpp] at h; simp at h
    | cons a r => exact miss_of (hps.sub a (by rw [hpp]; exact List.mem_cons_self)) (hps.un x a (by rw [hpp]; exact List.mem_cons_self))
  refine wpAny_mono (Q := fun f s => (∃ st2 oc ovs, (f = .brk ∧ Told p.S (kvsOf r ++ [(v, x)]) p.ns (fb && !(ps.map fun k => Value.ref (p.df k).d).isEmpty) st1 st2 true ∨ f = .next ∧ Told p.S (kvsOf r ++ [(v, x)]) p.ns (fb && !(ps.map fun k => Value.ref (p.df k).d).isEmpty) st1 st2 false) ∧
      Hs g z (frR L (cellsOf w 222 L) [("self", some (.ref sv)), ("domains", some (.ref p.DA)), ("constraints", oca), ("vconstraints", some (.ref p.VA)), ("forwardcheck", some (.bool fb)), ("assignments", some (.ref aA)), ("queue", some (.ref qA)), ("lst", ol), ("item", oi), ("variable", some (.int v tv)), ("values", some (.ref va)), ("pushdomains", some (pdV fb P)), ("domain", od), ("constraint", oc), ("variables", ovs)] :: famR p.df st2 p.ns :: pdR fb P (ps.map fun k => Value.ref (p.df k).d) :: lR va vs :: iR sv 239 sd :: fcR sd fb :: iR p.c 463 p.cd :: csR p.cd (.int p.S p.ts) :: lR p.nA p.nm :: dR w p.DA p.dk p.dep :: dR w p.VA p.vk p.vep :: vcsR p :: dR w aA (kvsOf r ++ [(v, x)]) ep2 :: lR qA (qrefs r) :: qsR p fb r :: R) s)) ?_ (fun f s h => ?_) fun _ _ f => f
  · refine for_ ?_
    refine sub_dict ?_
    refine nmC (L := L) (by assumption) (by walk_at "m_take") (by walk_at "m_mem") ?_
    refine nmC (L := L) (by assumption) (by walk_at "m_take") (by walk_at "m_mem") ?_
    refine ⟨g, z, _, _, p.VA, p.vk, p.vep, v, tv, _, rfl, rfl, H, (by walk_at "m_take"), vAt_map hC.vn, fun s34 H => ?_⟩
    obtain ⟨⟨n34, e34⟩, _⟩ := vc_at (p := p) H (by walk_at "m_take") hC.vn
    refine wpAny_pyIter_list (items := [Value.ref (p.vt v)].toArray) ⟨_, e34, rfl, n34, rfl⟩ ?_
    have H : Hs g z (liR s34.heap.objs.size (p.vl v) 0 :: _) _ := new_obj (o := { cls := .type "list_iterator", data := .fields #[.ref (p.vl v), .int 0 0] }) H ⟨rfl, rfl⟩ rfl s34.toks
    generalize s34.heap.objs.size = I6 at H ⊢
    refine ⟨g, z, 1, _, _, _, fun j M => (j = 0 ∧ M = frR L (cellsOf w 222 L) [("self", some (.ref sv)), ("domains", some (.ref p.DA)), ("constraints", oca), ("vconstraints", some (.ref p.VA)), ("forwardcheck", some (.bool fb)), ("assignments", some (.ref aA)), ("queue", some (.ref qA)), ("lst", ol), ("item", oi), ("variable", some (.int v tv)), ("values", some (.ref va)), ("pushdomains", some (pdV fb P)), ("domain", od), ("constraint", oc), ("variables", ovs)] :: famR p.df st1 p.ns :: pdR fb P (ps.map fun k => Value.ref (p.df k).d) :: lR va vs :: iR sv 239 sd :: fcR sd fb :: iR p.c 463 p.cd :: csR p.cd (.int p.S p.ts) :: lR p.nA p.nm :: dR w p.DA p.dk p.dep :: dR w p.VA p.vk p.vep :: vcsR p :: dR w aA (kvsOf r ++ [(v, x)]) ep2 :: lR qA (qrefs r) :: qsR p fb r :: R) ∨
      (j = 1 ∧ ∃ st2, Told p.S (kvsOf r ++ [(v, x)]) p.ns (fb && !(ps.map fun k => Value.ref (p.df k).d).isEmpty) st1 st2 true ∧ M = frR L (cellsOf w 222 L) [("self", some (.ref sv)), ("domains", some (.ref p.DA)), ("constraints", oca), ("vconstraints", some (.ref p.VA)), ("forwardcheck", some (.bool fb)), ("assignments", some (.ref aA)), ("queue", some (.ref qA)), ("lst", ol), ("item", oi), ("variable", some (.int v tv)), ("values", some (.ref va)), ("pushdomains", some (pdV fb P)), ("domain", od), ("constraint", some (.ref p.c)), ("variables", some (.ref p.nA))] :: famR p.df st2 p.ns :: pdR fb P (ps.map fun k => Value.ref (p.df k).d) :: lR va vs :: iR sv 239 sd :: fcR sd fb :: iR p.c 463 p.cd :: csR p.cd (.int p.S p.ts) :: lR p.nA p.nm :: dR w p.DA p.dk p.dep :: dR w p.VA p.vk p.vep :: vcsR p :: dR w aA (kvsOf r ++ [(v, x)]) ep2 :: lR qA (qrefs r) :: qsR p fb r :: R), _, iter_list hA.hd I6 (p.vl v) [.ref (p.vt v)], .inl ⟨rfl, rfl⟩, H.sub (by walk_at "m_sub"), ?_, ?_, ?_⟩
    · rintro j M s (⟨_, rfl⟩ | ⟨_, st2, _, rfl⟩) H
      · obtain ⟨⟨n, e⟩, _⟩ := vc_at (p := p) H (by walk_at "m_take") hC.vn; exact ⟨_, _, n, e⟩
      · obtain ⟨⟨n, e⟩, _⟩ := vc_at (p := p) H (by walk_at "m_take") hC.vn; exact ⟨_, _, n, e⟩
    · rintro j M y s hj (⟨rfl, rfl⟩ | ⟨rfl, _⟩) hy H
      · cases hy
        obtain ⟨_, n35, e35⟩ := vc_at (p := p) H (by walk_at "m_take") hC.vn
        refine asg_tup hA.hd H e35 fun s36 H => ?_
        refine wpAny_assignInOrder_more (wpAny_assign_Name ?_)
        refine stL (L := L) H (by walk_at "m_take") (by walk_at "m_upl") fun s37 H => ?_
        refine wpAny_assignInOrder_more (wpAny_assign_Name ?_)
        refine stL (L := L) H (by walk_at "m_take") (by walk_at "m_upl") fun s38 H => ?_
        refine wpAny_assignInOrder_none ?_
        refine wpAny_execs_cons ?_
        refine wpAny_If (isTrue_not (isTrue_plain (Call_ ?_)))
        refine nmL (by assumption) (by walk_at "m_take") (by walk_at "m_mem") ?_
        refine cons_with (cd := p.cd) (S := .int p.S p.ts) rfl ?_ B
        refine evalArgs_plain (spliced_cons ?_)
        refine nmL (by assumption) (by walk_at "m_take") (by walk_at "m_mem") ?_
        refine spliced_cons ?_
        refine nmC (L := L) (by assumption) (by walk_at "m_take") (by walk_at "m_mem") ?_
        refine spliced_cons ?_
        refine nmC (L := L) (by assumption) (by walk_at "m_take") (by walk_at "m_mem") ?_
        refine spliced_cons ?_
        refine nmL (by assumption) (by walk_at "m_take") (by walk_at "m_mem") ?_
        refine spliced_nil ?_
        refine ⟨rfl, ⟨z, _, _, _, H, (by walk_at "m_take"), (by walk_at "m_take")⟩, ?_⟩
        have hfc : ∀ (A' : Around) (s' : Shared) (Q : Bool → Shared → Prop), Hs g z (frR L (cellsOf w 222 L) [("self", some (.ref sv)), ("domains", some (.ref p.DA)), ("constraints", oca), ("vconstraints", some (.ref p.VA)), ("forwardcheck", some (.bool fb)), ("assignments", some (.ref aA)), ("queue", some (.ref qA)), ("lst", ol), ("item", oi), ("variable", some (.int v tv)), ("values", some (.ref va)), ("pushdomains", some (pdV fb P)), ("domain", od), ("constraint", some (.ref p.c)), ("variables", some (.ref p.nA))] :: liR I6 (p.vl v) (0 + 1) :: pdR fb P (ps.map fun k => Value.ref (p.df k).d) :: lR va vs :: iR sv 239 sd :: fcR sd fb :: dR w p.VA p.vk p.vep :: vcsR p :: lR qA (qrefs r) :: qsR p fb r :: R) s' → (∀ n, Q (fb && !(ps.map fun k => Value.ref (p.df k).d).isEmpty) { s' with toks := n }) → W w A' (truthy (pdV fb P)) Q s' := fun A' s' Q H q => pd_truthy H (by walk_at "m_take") (by simp; omega) q
        have hcall := fun Q => cons_call (Q := Q) (k := 10) (c := p.c) (cd := p.cd) (nA := p.nA) (DA := p.DA) (aA := aA) (nm := p.nm) (ns := p.ns) (kvs := (kvsOf r ++ [(v, x)])) (dk := p.dk) (ep := ep2) (dep := p.dep) (S := p.S) (ts := p.ts) (fc := pdV fb P) (fb := (fb && !(ps.map fun k => Value.ref (p.df k).d).isEmpty)) (df := p.df) (st := st1) (A := A) (hA.le (by omega)) B H (by walk_at "m_pick") hp.nm hp.nd (allI_app hC.node.all hC.va ((hok v hC.vn).int x hxm)) (by omega) (fun k hk => vAt_map hk) hokp hfc hm2
        refine hcall _ fun r' st2 s39 T H => ?_
        refine wpAny_truthy_bool ?_
        cases r' with
        | false =>
          rw [if_pos (by rfl)]
          refine wpAny_execs_cons ?_
          refine wpAny_Break ?_
          exact ⟨st2, some (.ref p.c), some (.ref p.nA), .inr ⟨rfl, T⟩, H.sub (by walk_at "m_sub")⟩
        | true =>
          rw [if_neg (by decide)]
          refine wpAny_execs_nil ?_
          show W _ _ _ _ _
          refine wpAny_execs_nil ?_
          exact ⟨_, .inr ⟨rfl, st2, T, rfl⟩, H.sub (by walk_at "m_sub")⟩
      · omega
    · rintro M s (⟨h, _⟩ | ⟨_, st2, T, rfl⟩) H
      · cases h
      refine wpAny_execs_cons ?_
      refine wpAny_Break ?_
      exact ⟨st2, some (.ref p.c), some (.ref p.nA), .inl ⟨rfl, T⟩, H.sub (by walk_at "m_sub")⟩
  obtain ⟨st2, oc2, ovs2, hT, H⟩ := h
  rcases hT with ⟨rfl, T⟩ | ⟨rfl, T⟩
  · have hc := told_comp T hnnx hp.nd hokp
    have hAf := after_told hP T (by intro h; simp at h; exact h.1) (hps.mem x)
    have hceq : ∀ l, Comp p.S p.ns (kvsOf r ++ [(v, x)]) st2 l ↔ Comp p.S p.ns (kvsOf r ++ [(v, x)]) st l := fun l => (hc.1 rfl l).trans (hcong l)
    refine .inl ⟨rfl, ?_⟩
    have hC' : Cur p (kvsOf r) v vs ps st := ⟨hC.node, hC.vn, hC.va, hC.ps, ⟨i, hvi⟩, hC.ne⟩
    refine q1 ⟨0, va, P, v, tv, vs, ps, st, x, p.S - psum (kvsOf r ++ [(v, x)]) p.ns⟩ r st2 ep2 od oc2 ovs2 s ⟨hS, hC', hAf, ⟨i, hvi, hxi⟩, hceq⟩ (cur_good hp hC hxm hP T) (cur_ne hP T (cur_un hC)) (told_end T hm2) (fun l => (hR l).trans ?_) ?_ (show Hs g z (frR L (cellsOf w 222 L) [("self", some (.ref sv)), ("domains", some (.ref p.DA)), ("constraints", oca), ("vconstraints", some (.ref p.VA)), ("forwardcheck", some (.bool fb)), ("assignments", some (.ref aA)), ("queue", some (.ref qA)), ("lst", ol), ("item", oi), ("variable", some (.int v tv)), ("values", some (.ref va)), ("pushdomains", some (pdV fb P)), ("domain", od), ("constraint", oc2), ("variables", ovs2)] :: lR va vs :: pdR fb P (ps.map fun k => Value.ref (p.df k).d) :: iR sv 239 sd :: fcR sd fb :: iR p.c 463 p.cd :: csR p.cd (.int p.S p.ts) :: lR p.nA p.nm :: dR w p.DA p.dk p.dep :: dR w p.VA p.vk p.vep :: vcsR p :: famR p.df st2 p.ns :: dR w aA (kvsOf r ++ [(v, x)]) ep2 :: lR qA (qrefs r) :: qsR p fb r :: R) _ from H.sub (by walk_at "m_sub"))
    · rw [hvs]
      constructor
      · rintro (⟨y, hy, h⟩ | h)
        · rcases List.mem_append.mp hy with hy | hy
          · exact .inr (.inl ⟨y, hy, h⟩)
          · rw [List.mem_singleton.mp hy] at h
            exact .inl ((hceq l).mpr h)
        · exact .inr (.inr h)
      · rintro (h | ⟨y, hy, h⟩ | h)
        · exact .inl ⟨x, by simp, (hceq l).mp h⟩
        · exact .inl ⟨y, List.mem_append_left _ hy, h⟩
        · exact .inr h
    · refine Nat.le_trans (Nat.le_of_eq ?_) hM
      rw [hvsl, Nat.succ_mul]
      show vs.length * TT (p.ns.length - (r.length + 1)) + mu p.ns.length r + _ = _
      omega
  · have hc := told_comp T hnnx hp.nd hokp
    have hAf := after_told hP T (by intro h; simp at h; exact h.1) (hps.mem x)
    show W _ _ _ _ _
    refine wpAny_execs_cons ?_
    refine pops_ (lf := fun od => [("self", some (.ref sv)), ("domains", some (.ref p.DA)), ("constraints", oca), ("vconstraints", some (.ref p.VA)), ("forwardcheck", some (.bool fb)), ("assignments", some (.ref aA)), ("queue", some (.ref qA)), ("lst", ol), ("item", oi), ("variable", some (.int v tv)), ("values", some (.ref va)), ("pushdomains", some (pdV fb P)), ("domain", od), ("constraint", oc2), ("variables", ovs2)]) (P := P) (ps := ps) (st := st) (c := p.S - psum (kvsOf r ++ [(v, x)]) p.ns) (hA.le (by omega)) B hp H Take.head hps.sub hps.nd hps.len hAf hok (fun o v => (by walk_at "m_upl")) (fun v => (by walk_at "m_mem")) (fun o => (by walk_at "m_mem")) rfl fun od s8 H => ?_
    show W _ _ _ _ _
    refine wpAny_execs_nil ?_
    have hlt : vs.length * TT (p.ns.length - (r.length + 1)) + mu p.ns.length r < m := by
      rw [hvsl, Nat.succ_mul] at hm
      have := tt_pos (p.ns.length - (r.length + 1))
      omega
    refine ⟨_, hlt, r, v, tv, va, P, vs, ps, st, some x, ep2, od, oc2, ovs2, hS, ⟨hC.node, hC.vn, hC.va, hC.ps, ⟨i, hvi⟩, hC.ne⟩, fun h => (by cases h), fun l => (hR l).trans ?_, rfl, by rw [hvsl, Nat.succ_mul] at hM; omega, (show Hs g z (frR L (cellsOf w 222 L) [("self", some (.ref sv)), ("domains", some (.ref p.DA)), ("constraints", oca), ("vconstraints", some (.ref p.VA)), ("forwardcheck", some (.bool fb)), ("assignments", some (.ref aA)), ("queue", some (.ref qA)), ("lst", ol), ("item", oi), ("variable", some (.int v tv)), ("values", some (.ref va)), ("pushdomains", some (pdV fb P)), ("domain", od), ("constraint", oc2), ("variables", ovs2)] :: lR va vs :: pdR fb P (ps.map fun k => Value.ref (p.df k).d) :: iR sv 239 sd :: fcR sd fb :: iR p.c 463 p.cd :: csR p.cd (.int p.S p.ts) :: lR p.nA p.nm :: dR w p.DA p.dk p.dep :: dR w p.VA p.vk p.vep :: vcsR p :: famR p.df st p.ns :: dR w aA (kvsOf r ++ [(v, x)]) ep2 :: lR qA (qrefs r) :: qsR p fb r :: R) _ from H.sub (by walk_at "m_sub"))⟩
    rw [hvs]
    constructor
    · rintro (⟨y, hy, h⟩ | h)
      · rcases List.mem_append.mp hy with hy | hy
        · exact .inl ⟨y, hy, h⟩
        · rw [List.mem_singleton.mp hy] at h
          exact absurd ((hcong l).mpr h) (hc.2 rfl l)
      · exact .inr h
    · rintro (⟨y, hy, h⟩ | h)
      · exact .inl ⟨y, List.mem_append_left _ hy, h⟩
      · exact .inr h
end
end
section
section
variable {w : World} {g : Heap} {z : Shared} {p : Pb} {A : Around} {s : Shared} {M M' R : List Res}
theorem execs_one {st : Stmt} {env : Env} {Q : Flow → Shared → Prop} (h : W w A (execs [st] env) Q s) : W w A (exec st env) Q s := fun Γ p hΓ => by
  have h := h Γ p hΓ
  rw [execs_cons, Sem.wp_bind'] at h
  refine Sem.wp_mono _ Γ _ (fun f p' s' h' => ?_) (fun _ _ _ h' => h') p s h
  cases f <;> exact h'
noncomputable def gRest (w : World) : List Stmt := match (gW w).2.1 with | [_, _, _, a, b] => [a, b] | _ => []
theorem restX {rest : List Stmt} {c : Code} {fs : List Frame} {P : End → Shared → Prop} {K : Flow → Sem Fin} {Hf : Value → Sem Fin} {gd : Bool → Bool} {lv : List Value → List Value} {L sv sd qA aA : Addr} {oca : Option Value} {fb : Bool} {r0 : List En} {v0 : Int} {tv0 : Tok} {va0 P0 : Addr} {vals0 : List Value} {ps0 : List Int} {st0 : Int → DS} {used0 : Option Value} {ep0 : Nat} {ol oi od0 oc0 ovs0 : Option Value} (hst : gRest w = rest) (hA : Ok 40 (A.over c fs)) (B : Base w g) (hp : p.Ok)
    (hS0 : Stk p fb r0 st0) (hC0 : Cur p (kvsOf r0) v0 vals0 ps0 st0) (hu0 : used0 = none → vals0 ≠ [])
    (H : Hs g z (frR L (cellsOf w 222 L) [("self", some (.ref sv)), ("domains", some (.ref p.DA)), ("constraints", oca), ("vconstraints", some (.ref p.VA)), ("forwardcheck", some (.bool fb)), ("assignments", some (.ref aA)), ("queue", some (.ref qA)), ("lst", ol), ("item", oi), ("variable", some (.int v0 tv0)), ("values", some (.ref va0)), ("pushdomains", some (pdV fb P0)), ("domain", od0), ("constraint", oc0), ("variables", ovs0)] :: lR va0 vals0 :: pdR fb P0 (ps0.map fun k => Value.ref (p.df k).d) :: iR sv 239 sd :: fcR sd fb :: iR p.c 463 p.cd :: csR p.cd (.int p.S p.ts) :: lR p.nA p.nm :: dR w p.DA p.dk p.dep :: dR w p.VA p.vk p.vep :: vcsR p :: famR p.df st0 p.ns :: dR w aA (curK (kvsOf r0) v0 used0) ep0 :: lR qA (qrefs r0) :: qsR p fb r0 :: R) s)
    (q1 : ∀ (q : List En) (st2 : Int → DS) ep ov ova opd od oc ovs s', Stk p fb q st2 → Node p (kvsOf q) st2 → (∀ k ∈ p.ns, valueAt (kvsOf q) k = none → (st2 k).xs ≠ []) → (miss (kvsOf q) p.ns = false → psum (kvsOf q) p.ns = p.S) →
      (∀ l, ((∃ y ∈ vals0, Comp p.S p.ns (kvsOf r0 ++ [(v0, y)]) st0 l) ∨ Rem p r0 l) ↔ (Comp p.S p.ns (kvsOf q) st2 l ∨ Rem p q l)) → mu p.ns.length q + TT (p.ns.length - q.length) ≤ vals0.length * TT (p.ns.length - (r0.length + 1)) + mu p.ns.length r0 →
      Hs g z (frR L (cellsOf w 222 L) [("self", some (.ref sv)), ("domains", some (.ref p.DA)), ("constraints", oca), ("vconstraints", some (.ref p.VA)), ("forwardcheck", some (.bool fb)), ("assignments", some (.ref aA)), ("queue", some (.ref qA)), ("lst", ol), ("item", oi), ("variable", ov), ("values", ova), ("pushdomains", opd), ("domain", od), ("constraint", oc), ("variables", ovs)] :: iR sv 239 sd :: fcR sd fb :: iR p.c 463 p.cd :: csR p.cd (.int p.S p.ts) :: lR p.nA p.nm :: dR w p.DA p.dk p.dep :: dR w p.VA p.vk p.vep :: vcsR p :: famR p.df st2 p.ns :: dR w aA (kvsOf q) ep :: lR qA (qrefs q) :: qsR p fb q :: R) s' → SX w A c (K .next) fs s' P)
    (q2 : (∀ l, ¬ ((∃ y ∈ vals0, Comp p.S p.ns (kvsOf r0 ++ [(v0, y)]) st0 l) ∨ Rem p r0 l)) → ∀ s', Hs g z (lR p.nA p.nm :: R) s' → SX w A c (K (.ret .none)) fs s' P) : SX w A c ((execs rest (callEnvC (fdOf w 222) L 222)).wrap K Hf gd lv) fs s P := by
  rw [← hst]
  have hsl : sizeLine = 2 ^ 24 := rfl
  with_unfolding_all refine x_stmt ?_
  refine execs_one (innerW (by kernel_rfl) hA B hp hS0 hC0 hu0 H (fun e r st2 ep od oc ovs s' h1 h2 h3 h4 h5 h6 H => ?_) fun h s' H => ?_)
  · show SX _ _ _ _ _ _ _
    refine x_stmt ?_
    have hl := h2.len
    have hkl := kvs_len (e :: r)
    have hl4 := hp.l4
    rw [List.length_cons] at hkl
    refine wpAny_Expr ?_ (by kernel_rfl) (by kernel_rfl)
    refine callM ?_
    refine nmL (by assumption) (by walk_at "m_take") (by walk_at "m_mem") ?_
    refine lst_meth H (by walk_at "m_take") slot_list_append PySem.F.type_list_append ?_
    refine app_ ?_
    refine tuple_ (k := 0) ?_
    refine wpAny_items_cons ?_
    refine nmC (L := L) (by assumption) (by walk_at "m_take") (by walk_at "m_mem") ?_
    refine wpAny_items_cons ?_
    refine nmL (by assumption) (by walk_at "m_take") (by walk_at "m_mem") ?_
    refine wpAny_items_cons ?_
    refine nmL (by assumption) (by walk_at "m_take") (by walk_at "m_mem") ?_
    refine wpAny_items_nil ?_
    refine ⟨g, z, _, H, by simp; omega, fun ta s8 H => ?_⟩
    refine ⟨g, z, _, _, qrefs r, H, (by walk_at "m_take"), by rw [qrefs_len]; omega, fun s9 H => ?_⟩
    show SX _ _ _ _ _ _ _
    refine x_nil ?_
    have H := qs_in (p := p) (fb := fb) (e := { e with ta := ta }) (q := r) H (by walk_at "m_pick")
    refine q1 ({ e with ta := ta } :: r) st2 ep (some (.int e.v e.tv)) (some (.ref e.va)) (some (pdV fb e.P)) od oc ovs s9 h1 h2 h3 h4 h5 h6 ?_
    rw [qrefs_cons]
    exact (show Hs g z (frR L (cellsOf w 222 L) [("self", some (.ref sv)), ("domains", some (.ref p.DA)), ("constraints", oca), ("vconstraints", some (.ref p.VA)), ("forwardcheck", some (.bool fb)), ("assignments", some (.ref aA)), ("queue", some (.ref qA)), ("lst", ol), ("item", oi), ("variable", some (.int e.v e.tv)), ("values", some (.ref e.va)), ("pushdomains", some (pdV fb e.P)), ("domain", od), ("constraint", oc), ("variables", ovs)] :: iR sv 239 sd :: fcR sd fb :: iR p.c 463 p.cd :: csR p.cd (.int p.S p.ts) :: lR p.nA p.nm :: dR w p.DA p.dk p.dep :: dR w p.VA p.vk p.vep :: vcsR p :: famR p.df st2 p.ns :: dR w aA (kvsOf (e :: r)) ep :: lR qA (qrefs r ++ [.ref ta]) :: qsR p fb ({ e with ta := ta } :: r) :: R) s9 from H.sub (by walk_at "m_sub"))
  · exact q2 h s' H
end
end
section
section
variable {w : World} {g : Heap} {z : Shared} {p : Pb} {A : Around} {s : Shared} {M M' R : List Res}
theorem fam_slice {env : Env} {value : Expr} {p pos : Pos} {k : Int} {df : Int → DA4} {st : Int → DS} {ns : List Int} {Q : Value → Shared → Prop} (B : Base w g) (hn : ns.Nodup) (hk : k ∈ ns) (hsz : (st k).xs.length ≤ 1000)
    (h : W w A (eval value env) (fun o s₁ => ∃ z M M', Hs g z M s₁ ∧ Take (famR df st ns) M M' ∧ o = .ref (df k).d ∧ ∀ a s', Hs g z (lR a (st k).xs :: famR df st ns :: M') s' → Q (.ref a) s') s) :
    W w A (eval (.Subscript value (.Slice none none none p) pos) env) Q s := by
  have hsl : sizeLine = 2 ^ 24 := rfl
  refine own_slice B (wpAny_mono h (fun o s₁ h₁ => ?_) fun _ _ f => f)
  obtain ⟨z, M, M', H, t, rfl, q⟩ := h₁
  obtain ⟨pre, post, e, H1⟩ := fam_out hk (H.take t)
  have H1 : Hs g z (domR (df k).d (df k).dd (df k).hl (df k).sl (st k).xs (st k).hs (st k).ss :: _) s₁ := H1
  refine ⟨z, _, _, (df k).d, _, (st k).xs, dom_open H1 Take.head, Take.head, by omega, rfl, fun a s' H => q a s' ?_⟩
  have H2 := dom_shut (H.sub (xs := qR (df k).d (.ref 356) (some (df k).dd) (st k).xs :: ddR (df k).dd (df k).hl (df k).sl :: lR (df k).hl (st k).hs :: lR (df k).sl (st k).ss :: sR ((pre ++ post).map fun j => dom1 (df j) (st j)) :: lR a (st k).xs :: M') (by walk_at "m_sub"))
  have H3 := fam_in (d := st k) (by rw [← e]; exact hn) H2
  rw [← e, show upd st k (st k) = st from funext fun j => by unfold upd; split <;> simp_all] at H3
  exact H3.sub (by walk_at "m_sub")
theorem leaf_comp {kvs : List (Int × Value)} {st : Int → DS} {S : Int} {ns : List Int} (hm0 : ∀ k ∈ ns, valueAt kvs k ≠ none) (he : psum kvs ns = S) (l : List Int) : Comp S ns kvs st l ↔ l = ns.map (vAt kvs) := by
  constructor
  · rintro ⟨f, rfl, h2, _, _⟩
    refine List.map_congr_left fun k hk => ?_
    cases e : valueAt kvs k with
    | none => exact absurd e (hm0 k hk)
    | some x => rw [h2 k hk x e]; unfold vAt; rw [e]; rfl
  · rintro rfl
    exact ⟨vAt kvs, rfl, fun k hk x e => by unfold vAt; rw [e]; rfl, fun k hk e => absurd e (hm0 k hk), he⟩
/-- what has been yielded, and what remains -/
structure YInv (p : Pb) (st0 : Int → DS) (Y : List (Addr × List (Int × Value))) (T : List Int → Prop) : Prop where
  nd : (Y.map fun q => p.ns.map (vAt q.2)).Nodup
  val : ∀ q ∈ Y, ∀ k ∈ p.ns, ∃ v, valueAt q.2 k = some v ∧ isInt v = true
  split : ∀ l, Comp p.S p.ns [] st0 l ↔ (l ∈ (Y.map fun q => p.ns.map (vAt q.2)) ∨ T l)
  dj : ∀ l ∈ (Y.map fun q => p.ns.map (vAt q.2)), ¬ T l
theorem YInv.congr {st0 : Int → DS} {Y : List (Addr × List (Int × Value))} {T T' : List Int → Prop} (h : YInv p st0 Y T) (e : ∀ l, T l ↔ T' l) : YInv p st0 Y T' :=
  ⟨h.nd, h.val, fun l => (h.split l).trans ⟨fun h => h.imp id (e l).mp, fun h => h.imp id (e l).mpr⟩, fun l hl hT => h.dj l hl ((e l).mpr hT)⟩
theorem YInv.done {st0 : Int → DS} {Y : List (Addr × List (Int × Value))} {T : List Int → Prop} (h : YInv p st0 Y T) (e : ∀ l, ¬ T l) : Sol p.S p.ns (Comp p.S p.ns [] st0) Y :=
  ⟨h.nd, fun l => ⟨fun q => (h.split l).mpr (.inl q), fun q => ((h.split l).mp q).resolve_right (e l)⟩, h.val⟩
theorem YInv.more {st0 : Int → DS} {Y : List (Addr × List (Int × Value))} {T T' : List Int → Prop} {a : Addr} {kvs : List (Int × Value)} (h : YInv p st0 Y T) (e : ∀ l, T l ↔ (l = p.ns.map (vAt kvs) ∨ T' l)) (hd : ¬ T' (p.ns.map (vAt kvs)))
    (hv : ∀ k ∈ p.ns, ∃ v, valueAt kvs k = some v ∧ isInt v = true) : YInv p st0 (Y ++ [(a, kvs)]) T' := by
  refine ⟨?_, fun q hq => ?_, fun l => ?_, fun l hl => ?_⟩
  · rw [List.map_append, List.nodup_append]
    refine ⟨h.nd, by simp, fun x hx y hy e' => ?_⟩
    simp only [List.map_cons, List.map_nil, List.mem_singleton] at hy
    exact h.dj x hx ((e x).mpr (.inl (e'.trans hy)))
  · rcases List.mem_append.mp hq with hq | hq
    · exact h.val q hq
    · rw [List.mem_singleton.mp hq]; exact hv
  · rw [h.split, e, List.map_append, List.mem_append, List.map_cons, List.map_nil, List.mem_singleton, or_assoc]
  · rw [List.map_append, List.mem_append, List.map_cons, List.map_nil, List.mem_singleton] at hl
    rcases hl with hl | rfl
    · exact fun hT => h.dj l hl ((e l).mpr (.inr hT))
    · exact hd
/-- what a run of the generator comes to -/
def GPost (w : World) (A : Around) (g : Heap) (p : Pb) (st0 : Int → DS) : Nat → List (Addr × List (Int × Value)) → List Res → Shared → End → Shared → Prop
  | 0 => fun Y R z e s => match e with
    | .ret r => r = .ok (.ret .none) ∧ Sol p.S p.ns (Comp p.S p.ns [] st0) Y ∧ Hs g z (solsR w Y :: lR p.nA p.nm :: R) s
    | .susp .. => False
  | n + 1 => fun Y R z e s => match e with
    | .ret r => r = .ok (.ret .none) ∧ Sol p.S p.ns (Comp p.S p.ns [] st0) Y ∧ Hs g z (solsR w Y :: lR p.nA p.nm :: R) s
    | .susp v _ _ k c _ fs => ∃ a kvs X, v = .ref a ∧ Hs g z (X :: solsR w (Y ++ [(a, kvs)]) :: R) s ∧
      ∀ R' z' s', Hs g z' (X :: solsR w (Y ++ [(a, kvs)]) :: R') s' → SX w A c (k (.send .none)) fs s' (GPost w A g p st0 n (Y ++ [(a, kvs)]) R' z')
theorem gp_ret {st0 : Int → DS} {n : Nat} {Y : List (Addr × List (Int × Value))} (h : Sol p.S p.ns (Comp p.S p.ns [] st0) Y) (H : Hs g z (solsR w Y :: lR p.nA p.nm :: R) s) : GPost w A g p st0 n Y R z (.ret (.ok (.ret .none))) s := by
  cases n <;> exact ⟨rfl, h, H⟩
theorem outerX {t : Expr} {b o : List Stmt} {fs : List Frame} {L sv sd qA aA : Addr} {oca : Option Value} {fb : Bool} {st0 : Int → DS} (hW : gW w = (t, b, o)) (B : Base w g) (hp : p.Ok) (hfs : splitAtGen fs = none) (hfg : fs.any Frame.guarded = false)
    (hA1 : Ok 41 (A.over (.whileLoop t b o (callEnvC (fdOf w 222) L 222)) fs))
    (hA2 : ∀ tg it bd oe kF pF, Ok 41 (A.over (.forLoop tg it bd oe (callEnvC (fdOf w 222) L 222)) (.ret kF none false [] (.whileLoop t b o (callEnvC (fdOf w 222) L 222)) pF [] :: fs)))
    (hA3 : ∀ bd kF pF, Ok 41 (A.over (.block bd (callEnvC (fdOf w 222) L 222)) (.ret kF none false [] (.whileLoop t b o (callEnvC (fdOf w 222) L 222)) pF [] :: fs)))
    (hret : ∀ s P, P (.ret (.ok (.ret .none))) s → SX w A (.whileLoop t b o (callEnvC (fdOf w 222) L 222)) (.pure (.done (.ret .none))) fs s P) :
    ∀ (m n : Nat) (q : List En) (st : Int → DS) (ep : Nat) (Y : List (Addr × List (Int × Value))) (R : List Res) (z : Shared) (ol oi ov ova opd od oc ovs : Option Value) (s : Shared),
      mu p.ns.length q + TT (p.ns.length - q.length) = m → m ≤ n → Stk p fb q st → Node p (kvsOf q) st → (∀ k ∈ p.ns, valueAt (kvsOf q) k = none → (st k).xs ≠ []) → (miss (kvsOf q) p.ns = false → psum (kvsOf q) p.ns = p.S) →
      YInv p st0 Y (fun l => Comp p.S p.ns (kvsOf q) st l ∨ Rem p q l) →
      Hs g z (frR L (cellsOf w 222 L) [("self", some (.ref sv)), ("domains", some (.ref p.DA)), ("constraints", oca), ("vconstraints", some (.ref p.VA)), ("forwardcheck", some (.bool fb)), ("assignments", some (.ref aA)), ("queue", some (.ref qA)), ("lst", ol), ("item", oi), ("variable", ov), ("values", ova), ("pushdomains", opd), ("domain", od), ("constraint", oc), ("variables", ovs)] :: iR sv 239 sd :: fcR sd fb :: iR p.c 463 p.cd :: csR p.cd (.int p.S p.ts) :: lR p.nA p.nm :: dR w p.DA p.dk p.dep :: dR w p.VA p.vk p.vep :: vcsR p :: famR p.df st p.ns :: dR w aA (kvsOf q) ep :: lR qA (qrefs q) :: qsR p fb q :: solsR w Y :: R) s →
      SX w A (.whileLoop t b o (callEnvC (fdOf w 222) L 222)) ((model pr w).den (.whileLoop t b o (callEnvC (fdOf w 222) L 222))) fs s (GPost w A g p st0 n Y R z) := by
  intro m
  induction m using Nat.strongRecOn with
  | ind m ih =>
    intro n q st ep Y R z ol oi ov ova opd od oc ovs s hm hn hS hN hne hend hY H
    have hl2 := hp.l2
    have hl4 := hp.l4
    have hsl : sizeLine = 2 ^ 24 := rfl
    have hok : ∀ k ∈ p.ns, OkD (st k) := fun k hk => (hN.room k hk).ok
    have hkl := kvs_len q
    have hNl := hN.len
    have ht : t = (gW w).1 := by rw [hW]
    have hb : b = (gW w).2.1 := by rw [hW]
    refine x_whileTurn ?_
    have hgt : (gW w).1 = .Constant (.bool true) 0 (gW w).1.pos := by kernel_rfl
    rw [show isTrue t (callEnvC (fdOf w 222) L 222) (eval t (callEnvC (fdOf w 222) L 222)) = isTrue (.Constant (.bool true) 0 (gW w).1.pos) (callEnvC (fdOf w 222) L 222) (eval (.Constant (.bool true) 0 (gW w).1.pos) (callEnvC (fdOf w 222) L 222)) by rw [ht]; exact congrArg (fun e => isTrue e (callEnvC (fdOf w 222) L 222) (eval e (callEnvC (fdOf w 222) L 222))) hgt]
    refine isTrue_plain (wpAny_Constant_bool (wpAny_truthy_bool ?_))
    rw [if_pos rfl]
    intro Hx
    have hgo : ∀ (q' : List En) (st2 : Int → DS) (ep : Nat) (ov ova opd od oc ovs ol oi : Option Value) (n' : Nat) (Y' : List (Addr × List (Int × Value))) (R' : List Res) (z' : Shared) (s' : Shared), mu p.ns.length q' + TT (p.ns.length - q'.length) < m → mu p.ns.length q' + TT (p.ns.length - q'.length) ≤ n' → Stk p fb q' st2 → Node p (kvsOf q') st2 → (∀ k ∈ p.ns, valueAt (kvsOf q') k = none → (st2 k).xs ≠ []) → (miss (kvsOf q') p.ns = false → psum (kvsOf q') p.ns = p.S) →
        YInv p st0 Y' (fun l => Comp p.S p.ns (kvsOf q') st2 l ∨ Rem p q' l) → Hs g z' (frR L (cellsOf w 222 L) [("self", some (.ref sv)), ("domains", some (.ref p.DA)), ("constraints", oca), ("vconstraints", some (.ref p.VA)), ("forwardcheck", some (.bool fb)), ("assignments", some (.ref aA)), ("queue", some (.ref qA)), ("lst", ol), ("item", oi), ("variable", ov), ("values", ova), ("pushdomains", opd), ("domain", od), ("constraint", oc), ("variables", ovs)] :: iR sv 239 sd :: fcR sd fb :: iR p.c 463 p.cd :: csR p.cd (.int p.S p.ts) :: lR p.nA p.nm :: dR w p.DA p.dk p.dep :: dR w p.VA p.vk p.vep :: vcsR p :: famR p.df st2 p.ns :: dR w aA (kvsOf q') ep :: lR qA (qrefs q') :: qsR p fb q' :: solsR w Y' :: R') s' →
        SX w A (.whileLoop t b o (callEnvC (fdOf w 222) L 222)) (.pure (.again (.whileLoop t b o (callEnvC (fdOf w 222) L 222)))) fs s' (GPost w A g p st0 n' Y' R' z') := fun q' st2 ep ov ova opd od oc ovs ol oi n' Y' R' z' s' h1 h2 h3 h4 h5 h6 h7 H =>
      x_again rfl (ih _ h1 n' q' st2 ep Y' R' z' ol oi ov ova opd od oc ovs s' rfl h2 h3 h4 h5 h6 h7 H)
    have hfin : ∀ (n' : Nat) (Y' : List (Addr × List (Int × Value))) (R' : List Res) (z' : Shared) (s' : Shared), Sol p.S p.ns (Comp p.S p.ns [] st0) Y' → Hs g z' (lR p.nA p.nm :: solsR w Y' :: R') s' → SX w A (.whileLoop t b o (callEnvC (fdOf w 222) L 222)) (.pure (.done (.ret .none))) fs s' (GPost w A g p st0 n' Y' R' z') := fun n' Y' R' z' s' h H => hret _ _ (gp_ret h (H.sub (by walk_at "m_sub")))
    rw [hb]
    with_unfolding_all refine x_stmt ?_
    rw [← hb]
    refine asg_comp_ ["variable"] ?_
    refine nmC (L := L) (by assumption) (by walk_at "m_take") (by walk_at "m_mem") ?_
    refine d_iter H (by walk_at "m_take") fun I s1 H => ?_
    have hlen : p.dk.length = p.ns.length := by unfold Pb.dk; simp
    refine ⟨g, z, p.dk.length, _, _, _, fun i ys M => ∃ l : List (Addr × List Value), Tups (p.ns.take i) l ∧ l.length = i ∧ ys = l.map (fun q => .ref q.1) ∧
      M = tupsR l :: frR L (cellsOf w 222 L) [("self", some (.ref sv)), ("domains", some (.ref p.DA)), ("constraints", oca), ("vconstraints", some (.ref p.VA)), ("forwardcheck", some (.bool fb)), ("assignments", some (.ref aA)), ("queue", some (.ref qA)), ("lst", ol), ("item", oi), ("variable", ov), ("values", ova), ("pushdomains", opd), ("domain", od), ("constraint", oc), ("variables", ovs)] :: iR sv 239 sd :: fcR sd fb :: iR p.c 463 p.cd :: csR p.cd (.int p.S p.ts) :: lR p.nA p.nm :: dR w p.DA p.dk p.dep :: dR w p.VA p.vk p.vep :: vcsR p :: famR p.df st p.ns :: dR w aA (kvsOf q) ep :: lR qA (qrefs q) :: qsR p fb q :: solsR w Y :: R, _, iter_dict (a := p.DA) (ep := p.dep) hA1.hd I,
      ⟨[], ⟨fun _ h => (by cases h), fun _ h => (by simp at h)⟩, rfl, rfl, rfl⟩, (tups_nil H).sub (by walk_at "m_sub"), by rw [hlen]; omega, ?_, ?_, ?_, ?_⟩
    · rintro i ys M s ⟨l, _, _, _, rfl⟩ H; exact (dR_at (a := p.DA) H (by walk_at "m_take")).1
    · rintro i ys M ⟨l, _, e, rfl, rfl⟩; simp [e]
    · rintro C D l0 i ys M v s hl hi ⟨l, hT, hll, rfl, rfl⟩ ⟨k, x, t, hk, rfl⟩ H
      obtain ⟨o0, rfl⟩ := one_name hl
      have hkn := dk_at p hk
      have hkm : k ∈ p.ns := List.mem_of_getElem? hkn
      have hok' := (hok k hkm).len
      refine wpAny_assign_Name ?_
      refine stL H (by walk_at "m_take") (by walk_at "m_upl") fun s2 H => ?_
      refine wpAny_tests_nil ?_
      rw [if_pos rfl]
      refine tuple_ (k := 0) ?_
      refine wpAny_items_cons ?_
      refine wpAny_UnaryOp ?_
      refine Call_Name1 ?_
      refine nmB (v := .builtin "len") B H ?_
      refine cw1 ?_
      refine sub_dict ?_
      refine nmC (L := L) (by assumption) (by walk_at "m_take") (by walk_at "m_mem") ?_
      refine nmL (by assumption) (by walk_at "m_take") (by walk_at "m_mem") ?_
      refine ⟨g, z, _, _, p.VA, p.vk, p.vep, k, t, _, rfl, rfl, H, (by walk_at "m_take"), vAt_map hkm, fun s3 H => ?_⟩
      obtain ⟨⟨n4, e4⟩, _⟩ := vc_at (p := p) H (by walk_at "m_take") hkm
      refine len_list H e4 (by simp; omega) fun t4 s4 H => ?_
      refine neg_ H fun t5 s5 H => ?_
      refine wpAny_items_cons ?_
      refine Call_Name1 ?_
      refine nmB (v := .builtin "len") B H ?_
      refine cw1 ?_
      refine sub_dict ?_
      refine nmC (L := L) (by assumption) (by walk_at "m_take") (by walk_at "m_mem") ?_
      refine nmL (by assumption) (by walk_at "m_take") (by walk_at "m_mem") ?_
      refine ⟨g, z, _, _, p.DA, p.dk, p.dep, k, t, _, rfl, rfl, H, (by walk_at "m_take"), vAt_map hkm, fun s6 H => ?_⟩
      obtain ⟨n7, e7⟩ := fam_at (df := p.df) (st := st) (ns := p.ns) H (by walk_at "m_take") hkm
      refine own_len (B.x H) e7 (by omega) ?_
      have H := H.tok (s6.toks + 1 + 1)
      refine wpAny_items_cons ?_
      refine nmL (by assumption) (by walk_at "m_take") (by walk_at "m_mem") ?_
      refine wpAny_items_nil ?_
      refine ⟨g, z, _, H, by simp; omega, fun a s8 H => ?_⟩
      have htk : p.ns.take (i + 1) = p.ns.take i ++ [k] := by rw [List.take_add_one, hkn]; rfl
      refine ⟨[("variable", some (.int k t))], _, rfl, ⟨l ++ [(a, [.int (-(([Value.ref (p.vt k)].length : Nat) : Int)) t5, .int ((st k).xs.length : Nat) (s6.toks + 1), .int k t])], by rw [htk]; exact hT.snoc (x := a) (t := t) rfl rfl, by simp [hll], by simp, rfl⟩, ?_⟩
      have H := tups_add (a := a) (l := l) (vs := [.int (-(([Value.ref (p.vt k)].length : Nat) : Int)) t5, .int ((st k).xs.length : Nat) (s6.toks + 1), .int k t]) H (by walk_at "m_pick")
      exact H.sub (by walk_at "m_sub")
    rintro C l0 D ys M s ⟨l, hT, hll, rfl, rfl⟩ H
    rw [hlen, List.take_length] at hT
    rw [hlen] at hll
    refine stL (L := L) H (by walk_at "m_take") (by walk_at "m_upl") fun s9 H => ?_
    refine ⟨_, H.sub (xs := frR C [] l0 :: _) (by walk_at "m_sub"), fun s10 H => ?_⟩
    show SX _ _ _ _ _ _ _
    refine x_stmt ?_
    refine wpAny_Expr ?_ (by kernel_rfl) (by kernel_rfl)
    refine callM ?_
    refine nmL (by assumption) (by walk_at "m_take") (by walk_at "m_mem") ?_
    refine lst_meth H (by walk_at "m_take") slot_list_sort PySem.F.type_list_sort ?_
    refine sort_tups (l := l) H (by walk_at "m_take") (by walk_at "m_take") (by omega) (by omega) (fun r hr => ?_) fun ws s11 hws hwl H => ?_
    · obtain ⟨a, b, k, t, e, h1, h2, _⟩ := hT.shape r hr
      rw [e]
      refine ⟨by simp, fun x hx => ?_⟩
      simp only [List.mem_cons, List.not_mem_nil, or_false] at hx
      rcases hx with rfl | rfl | rfl
      · exact h1
      · exact h2
      · rfl
    show SX _ _ _ _ _ _ _
    refine x_cons ?_
    refine x_for ?_
    refine nmL (by assumption) (by walk_at "m_take") (by walk_at "m_mem") ?_
    refine l_iter H (by walk_at "m_take") fun I s12 H => ?_
    intro pF kF hkF
    refine x_forLoop (n := ws.length) (iter_list (hA2 _ _ _ _ kF pF).hd I D ws) (fun i M => ∃ oi, (∀ j, j < i → ∀ r ∈ l, ws[j]? = some (.ref r.1) → ∀ a b k t, r.2 = [a, b, .int k t] → valueAt (kvsOf q) k ≠ none) ∧
      M = frR L (cellsOf w 222 L) [("self", some (.ref sv)), ("domains", some (.ref p.DA)), ("constraints", oca), ("vconstraints", some (.ref p.VA)), ("forwardcheck", some (.bool fb)), ("assignments", some (.ref aA)), ("queue", some (.ref qA)), ("lst", some (.ref D)), ("item", oi), ("variable", ov), ("values", ova), ("pushdomains", opd), ("domain", od), ("constraint", oc), ("variables", ovs)] :: lR D ws :: tupsR l :: iR sv 239 sd :: fcR sd fb :: iR p.c 463 p.cd :: csR p.cd (.int p.S p.ts) :: lR p.nA p.nm :: dR w p.DA p.dk p.dep :: dR w p.VA p.vk p.vep :: vcsR p :: famR p.df st p.ns :: dR w aA (kvsOf q) ep :: lR qA (qrefs q) :: qsR p fb q :: solsR w Y :: R) ?_ ?_ ?_ ws.length 0 _ _ rfl (Nat.zero_le _) ⟨oi, fun j hj => absurd hj (Nat.not_lt_zero _), rfl⟩ (H.sub (by walk_at "m_sub"))
    · rintro i M s ⟨oi, _, rfl⟩ H; exact has_seq (a := D) H (by walk_at "m_take")
    · rintro i M v s hi ⟨oi, hj, rfl⟩ hv H
      obtain ⟨r, hr, rfl⟩ := (hws v).mp (List.mem_of_getElem? hv)
      obtain ⟨a1, b1, v, tv, er, _, _, hvn⟩ := hT.shape r hr
      have hAf := hA2 (.Name "item" ⟨0,0,0,0⟩) .none [] [] kF pF
      refine wpAny_assign_Name ?_
      refine stL H (by walk_at "m_take") (by walk_at "m_upl") fun s13 H => ?_
      have htup : ∀ {M s}, Hs g z M s → (∃ M', Take (tupsR l) M M') → ∃ n, s.heap.get? r.1 = some ⟨.type "tuple", none, .seq [a1, b1, .int v tv].toArray n, #[]⟩ := fun {M s} H ⟨M', t⟩ => by
        have := tup_at H t hr; rwa [er] at this
      refine wpAny_execs_cons ?_
      refine wpAny_If (wpAny_isTrue_Compare1 ?_)
      refine tup_item ?_
      refine nmL (by assumption) (by walk_at "m_take") (by walk_at "m_mem") ?_
      refine wpAny_UnaryOp (con_ H fun t14 s14 H => neg_ H fun t15 s15 H => ?_)
      obtain ⟨n15, e15⟩ := htup H ⟨_, (by walk_at "m_take")⟩
      refine ⟨r.1, -1, t15, _, n15, 2, .int v tv, rfl, rfl, e15, by decide, by decide, by kernel_rfl, rfl, ?_⟩
      refine nmC (L := L) (by assumption) (by walk_at "m_take") (by walk_at "m_mem") ?_
      refine d_notin H (by walk_at "m_take") fun s16 H => ?_
      refine wpAny_truthy_bool ?_
      cases hva : valueAt (kvsOf q) v with
      | some y =>
        rw [Option.isSome_some, if_neg (by decide)]
        refine wpAny_execs_nil ?_
        show W _ _ _ _ _
        refine wpAny_execs_nil ?_
        refine ⟨_, ⟨some (.ref r.1), fun j hj' r' hr' e' a b k t hs => ?_, rfl⟩, H.sub (by walk_at "m_sub")⟩
        rcases Nat.lt_or_eq_of_le (Nat.le_of_lt_succ hj') with h | rfl
        · exact hj j h r' hr' e' a b k t hs
        · rw [hv] at e'
          have e1 : r.1 = r'.1 := by injection (Option.some.inj e')
          have h2 := tup_at H (by walk_at "m_take" : Take (tupsR l) _ _) hr'
          obtain ⟨n2, e2⟩ := h2
          obtain ⟨n3, e3⟩ := htup H ⟨_, (by walk_at "m_take")⟩
          rw [← e1, e3, hs] at e2
          have : v = k := by
            have := congrArg (fun o : Option Obj => match o with | some ⟨_, _, .seq a _, _⟩ => a.toList | _ => []) e2
            simp at this
            exact this.2.2.1
          rw [← this, hva]; exact fun h => nomatch h
      | none =>
        rw [Option.isSome_none, if_pos (by rfl)]
        refine wpAny_execs_cons ?_
        refine wpAny_Assign_Name ?_ (by kernel_rfl)
        refine tup_item ?_
        refine nmL (by assumption) (by walk_at "m_take") (by walk_at "m_mem") ?_
        refine wpAny_UnaryOp (con_ H fun t17 s17 H => neg_ H fun t18 s18 H => ?_)
        obtain ⟨n18, e18⟩ := htup H ⟨_, (by walk_at "m_take")⟩
        refine ⟨r.1, -1, t18, _, n18, 2, .int v tv, rfl, rfl, e18, by decide, by decide, by kernel_rfl, rfl, ?_⟩
        refine stC (L := L) H (by walk_at "m_take") (by walk_at "m_upl") fun s19 H => ?_
        show W _ _ _ _ _
        refine wpAny_execs_cons ?_
        refine wpAny_Assign_Name ?_ (by kernel_rfl)
        have hx2 := hN.two v hvn
        refine fam_slice (k := v) (df := p.df) (st := st) (ns := p.ns) B hp.nd hvn (by omega) ?_
        refine sub_dict ?_
        refine nmC (L := L) (by assumption) (by walk_at "m_take") (by walk_at "m_mem") ?_
        refine nmC (L := L) (by assumption) (by walk_at "m_take") (by walk_at "m_mem") ?_
        refine ⟨g, z, _, _, p.DA, p.dk, p.dep, v, tv, _, rfl, rfl, H, (by walk_at "m_take"), vAt_map hvn, fun s20 H => ?_⟩
        refine ⟨z, _, _, H, (by walk_at "m_take"), rfl, fun va s21 H => ?_⟩
        refine stL (L := L) H (by walk_at "m_take") (by walk_at "m_upl") fun s22 H => ?_
        show W _ _ _ _ _
        refine wpAny_execs_cons ?_
        have hcd : ∀ (x : Value) k, valueAt (kvsOf q ++ [(v, x)]) k = none ↔ (valueAt (kvsOf q) k = none ∧ k ≠ v) := fun x k => by
          rw [va_app hva]
          by_cases e : k = v
          · simp [e]
          · simp [e]
        generalize hps : (p.ns.filter fun k => (valueAt (kvsOf q) k).isNone && (k != v)) = ps
        have hpsok : PsOk p (kvsOf q) v ps := by
          subst hps
          refine ⟨hp.nd.filter _, fun k hk => (List.mem_filter.mp hk).1, fun x k hk hv => List.mem_filter.mpr ⟨hk, ?_⟩, fun x k hk => ?_, Nat.le_trans (List.length_filter_le _ _) hl4⟩
          · obtain ⟨h1, h2⟩ := (hcd x k).mp hv
            rw [h1]; simpa using h2
          · obtain ⟨_, h⟩ := List.mem_filter.mp hk
            simp only [Bool.and_eq_true, Option.isNone_iff_eq_none, bne_iff_ne] at h
            exact (hcd x k).mpr h
        refine wpAny_mono (Q := fun f s => f = .next ∧ ∃ P, Hs g z (frR L (cellsOf w 222 L) [("self", some (.ref sv)), ("domains", some (.ref p.DA)), ("constraints", oca), ("vconstraints", some (.ref p.VA)), ("forwardcheck", some (.bool fb)), ("assignments", some (.ref aA)), ("queue", some (.ref qA)), ("lst", some (.ref D)), ("item", some (.ref r.1)), ("variable", some (.int v tv)), ("values", some (.ref va)), ("pushdomains", some (pdV fb P)), ("domain", od), ("constraint", oc), ("variables", ovs)] :: pdR fb P (ps.map fun k => Value.ref (p.df k).d) :: lR va (st v).xs :: liR I D (i + 1) :: lR D ws :: tupsR l :: iR sv 239 sd :: fcR sd fb :: iR p.c 463 p.cd :: csR p.cd (.int p.S p.ts) :: lR p.nA p.nm :: dR w p.DA p.dk p.dep :: dR w p.VA p.vk p.vep :: vcsR p :: famR p.df st p.ns :: dR w aA (kvsOf q) ep :: lR qA (qrefs q) :: qsR p fb q :: solsR w Y :: R) s) ?_ (fun f s h => ?_) fun _ _ f => f
        · refine wpAny_If (isTrue_plain ?_)
          refine nmL (by assumption) (by walk_at "m_take") (by walk_at "m_mem") ?_
          refine wpAny_truthy_bool ?_
          rcases Bool.eq_false_or_eq_true fb with hfb | hfb
          · rw [if_pos hfb]
            refine wpAny_execs_cons ?_
            refine asg_comp_ ["x"] ?_
            refine nmC (L := L) (by assumption) (by walk_at "m_take") (by walk_at "m_mem") ?_
            refine d_iter H (by walk_at "m_take") fun I2 s22 H => ?_
            refine ⟨g, z, p.dk.length, _, _, _, fun i' ys M => ys = ((p.ns.take i').filter fun k => (valueAt (kvsOf q) k).isNone && (k != v)).map (fun k => .ref (p.df k).d) ∧
              M = frR L (cellsOf w 222 L) [("self", some (.ref sv)), ("domains", some (.ref p.DA)), ("constraints", oca), ("vconstraints", some (.ref p.VA)), ("forwardcheck", some (.bool fb)), ("assignments", some (.ref aA)), ("queue", some (.ref qA)), ("lst", some (.ref D)), ("item", some (.ref r.1)), ("variable", some (.int v tv)), ("values", some (.ref va)), ("pushdomains", opd), ("domain", od), ("constraint", oc), ("variables", ovs)] :: lR va (st v).xs :: liR I D (i + 1) :: lR D ws :: tupsR l :: iR sv 239 sd :: fcR sd fb :: iR p.c 463 p.cd :: csR p.cd (.int p.S p.ts) :: lR p.nA p.nm :: dR w p.DA p.dk p.dep :: dR w p.VA p.vk p.vep :: vcsR p :: famR p.df st p.ns :: dR w aA (kvsOf q) ep :: lR qA (qrefs q) :: qsR p fb q :: solsR w Y :: R, _, iter_dict (a := p.DA) (ep := p.dep) hAf.hd I2,
              ⟨by simp, rfl⟩, H.sub (by walk_at "m_sub"), by rw [hlen]; omega, ?_, ?_, ?_, ?_⟩
            · rintro i ys M s ⟨_, rfl⟩ H; exact (dR_at (a := p.DA) H (by walk_at "m_take")).1
            · rintro i ys M ⟨rfl, rfl⟩
              rw [List.length_map]
              exact Nat.le_trans (List.length_filter_le _ _) (by rw [List.length_take]; omega)
            · rintro C D2 l2 i ys M v2 s hl hi ⟨rfl, rfl⟩ ⟨k, x, t, hk, rfl⟩ H
              obtain ⟨o0, rfl⟩ := one_name hl
              have hkn := dk_at p hk
              have hkm : k ∈ p.ns := List.mem_of_getElem? hkn
              refine wpAny_assign_Name ?_
              refine stL H (by walk_at "m_take") (by walk_at "m_upl") fun s23 H => ?_
              refine wpAny_tests_one ?_
              refine isTrue_and (wpAny_isTrue_Compare1 ?_)
              refine nmL (by assumption) (by walk_at "m_take") (by walk_at "m_mem") ?_
              refine nmC (L := L) (by assumption) (by walk_at "m_take") (by walk_at "m_mem") ?_
              refine d_notin H (by walk_at "m_take") fun s24 H => ?_
              refine wpAny_truthy_bool ?_
              cases hvk : valueAt (kvsOf q) k with
              | some y =>
                rw [Option.isSome_some, if_neg (by decide), if_neg (by decide)]
                refine ⟨_, _, rfl, ⟨by rw [filter_snoc hkn, hvk]; simp, rfl⟩, H⟩
              | none =>
                rw [Option.isSome_none, if_pos (by rfl)]
                refine isTrue_and (wpAny_isTrue_Compare1 ?_)
                refine nmL (by assumption) (by walk_at "m_take") (by walk_at "m_mem") ?_
                refine nmC (L := L) (by assumption) (by walk_at "m_take") (by walk_at "m_mem") ?_
                refine PyProof.Rows.ne_int (wpAny_truthy_bool ?_)
                by_cases hkv : k = v
                · rw [if_neg (by simp [hkv]), if_neg (by decide)]
                  refine ⟨_, _, rfl, ⟨by rw [filter_snoc hkn]; simp [hkv], rfl⟩, H⟩
                · rw [if_pos (by simpa using hkv)]
                  refine isTrue_and_nil ?_
                  rw [if_pos rfl]
                  refine sub_dict ?_
                  refine nmC (L := L) (by assumption) (by walk_at "m_take") (by walk_at "m_mem") ?_
                  refine nmL (by assumption) (by walk_at "m_take") (by walk_at "m_mem") ?_
                  refine ⟨g, z, _, _, p.DA, p.dk, p.dep, k, t, _, rfl, rfl, H, (by walk_at "m_take"), vAt_map hkm, fun s25 H => ?_⟩
                  refine ⟨_, _, rfl, ⟨by rw [filter_snoc hkn, hvk]; simp [hkv], rfl⟩, H⟩
            · rintro C l2 D2 ys M s ⟨rfl, rfl⟩ H
              rw [hlen, List.take_length, hps] at H
              refine stL (L := L) H (by walk_at "m_take") (by walk_at "m_upl") fun s26 H => ?_
              refine ⟨_, H.sub (xs := frR C [] l2 :: _) (by walk_at "m_sub"), fun s27 H => ?_⟩
              show W _ _ _ _ _
              refine wpAny_execs_nil ?_
              refine ⟨rfl, D2, ?_⟩
              rw [hfb] at H ⊢
              exact H.sub (by unfold pdR pdV; rw [if_pos rfl, if_pos rfl]; walk_at "m_sub")
          · rw [if_neg (by rw [hfb]; decide)]
            refine wpAny_execs_cons ?_
            refine wpAny_Assign_Name ?_ (by kernel_rfl)
            refine wpAny_Constant_none ?_
            refine stL (L := L) H (by walk_at "m_take") (by walk_at "m_upl") fun s22 H => ?_
            show W _ _ _ _ _
            refine wpAny_execs_nil ?_
            refine ⟨rfl, 0, ?_⟩
            have H : Hs g z (sR [] :: _) s22 := Hs.shut (l := []) H
            rw [hfb] at H ⊢
            exact H.sub (by unfold pdR pdV; rw [if_neg (by decide), if_neg (by decide)]; walk_at "m_sub")
        obtain ⟨rfl, P, H⟩ := h
        show W _ _ _ _ _
        refine wpAny_execs_cons ?_
        refine wpAny_Break ?_
        refine x_pop ?_
        rw [hkF]
        show SX _ _ _ _ _ _ _
        have hC : Cur p (kvsOf q) v (st v).xs ps st := ⟨hN, hvn, hva, hpsok, ⟨(st v).xs.length, by simp⟩, hne⟩
        have hql := cur_len hp hC
        have hTT : TT (p.ns.length - q.length) = 1 + 2 * TT (p.ns.length - (q.length + 1)) := by
          rw [show p.ns.length - q.length = (p.ns.length - (q.length + 1)) + 1 by omega]; rfl
        have hmul : (st v).xs.length * TT (p.ns.length - (q.length + 1)) ≤ 2 * TT (p.ns.length - (q.length + 1)) := Nat.mul_le_mul_right _ hx2
        have hspl : ∀ l, (Comp p.S p.ns (kvsOf q) st l ∨ Rem p q l) ↔ ((∃ y ∈ (st v).xs, Comp p.S p.ns (kvsOf q ++ [(v, y)]) st l) ∨ Rem p q l) := fun l => or_congr (comp_split hvn hva) Iff.rfl
        refine restX (used0 := none) (c := .whileLoop t b o (callEnvC (fdOf w 222) L 222)) (R := solsR w Y :: R) (by kernel_rfl) (hA1.le (by omega)) B hp hS hC (fun _ => hne v hvn hva) (show Hs g z (frR L (cellsOf w 222 L) [("self", some (.ref sv)), ("domains", some (.ref p.DA)), ("constraints", oca), ("vconstraints", some (.ref p.VA)), ("forwardcheck", some (.bool fb)), ("assignments", some (.ref aA)), ("queue", some (.ref qA)), ("lst", some (.ref D)), ("item", some (.ref r.1)), ("variable", some (.int v tv)), ("values", some (.ref va)), ("pushdomains", some (pdV fb P)), ("domain", od), ("constraint", oc), ("variables", ovs)] :: lR va (st v).xs :: pdR fb P (ps.map fun k => Value.ref (p.df k).d) :: iR sv 239 sd :: fcR sd fb :: iR p.c 463 p.cd :: csR p.cd (.int p.S p.ts) :: lR p.nA p.nm :: dR w p.DA p.dk p.dep :: dR w p.VA p.vk p.vep :: vcsR p :: famR p.df st p.ns :: dR w aA (kvsOf q) ep :: lR qA (qrefs q) :: qsR p fb q :: solsR w Y :: R) _ from H.sub (by walk_at "m_sub"))
          (fun q' st2 ep ov ova opd od oc ovs s' h1 h2 h3 h4 h5 h6 H => ?_) (fun h s' H => ?_)
        · exact hgo q' st2 ep ov ova opd od oc ovs _ _ n Y R z s' (by omega) (by omega) h1 h2 h3 h4 (hY.congr fun l => (hspl l).trans (h5 l)) H
        · exact hfin n Y R z s' (hY.done fun l hl => h l ((hspl l).mp hl)) H
    · rintro M s ⟨oi, hj, rfl⟩ H
      have hm0 : ∀ k ∈ p.ns, valueAt (kvsOf q) k ≠ none := fun k hk => by
        obtain ⟨r, hr, a, b, t, e⟩ := hT.all k hk
        obtain ⟨j, hjl, ej⟩ := List.mem_iff_getElem.mp ((hws (.ref r.1)).mpr ⟨r, hr, rfl⟩)
        exact hj j hjl r hr (by rw [List.getElem?_eq_getElem hjl, ej]) a b k t e
      have hmiss : miss (kvsOf q) p.ns = false := by
        unfold miss
        rw [List.any_eq_false]
        intro k hk
        rw [Option.isNone_iff_eq_none]
        exact hm0 k hk
      have hleaf := leaf_comp (st := st) hm0 (hend hmiss)
      have hun : unN p.ns (kvsOf q) = 0 := by
        unfold unN
        rw [List.length_eq_zero_iff, List.filter_eq_nil_iff]
        intro k hk
        rw [Option.isNone_iff_eq_none]
        exact hm0 k hk
      have hTT := tt_pos (p.ns.length - q.length)
      obtain ⟨n', rfl⟩ : ∃ n', n = n' + 1 := ⟨n - 1, by omega⟩
      cases q with
      | nil => rw [hun] at hNl; have : (kvsOf []).length = 0 := rfl; omega
      | cons e r =>
        have hdis := rem_disj hS ((hleaf _).mpr rfl)
        obtain ⟨h1, h2, h3, h4, h6⟩ := hS
        have hAb := hA3 [] kF pF
        have hql := qrefs_len (e :: r)
        rw [List.length_cons] at hql
        rw [List.length_cons] at hkl
        refine x_block ?_
        intro Hb
        refine x_cons (x_yield (by show (splitAtGen fs).map _ = none; rw [hfs]; rfl) rfl (by show (false || fs.any _) = false; rw [hfg]; rfl) ?_ (by kernel_rfl) (by kernel_rfl))
        refine callM ?_
        refine nmC (L := L) (by assumption) (by walk_at "m_take") (by walk_at "m_mem") ?_
        refine d_meth H (by walk_at "m_take") PySem.F.slot_dict_copy PySem.F.type_dict_copy ?_
        refine d_copy B H (by walk_at "m_take") (by omega) fun bD epb s13 H => ?_
        intro ly py kY hkY
        have H := sols_add (a := bD) (kvs := kvsOf (e :: r)) (ep := epb) (l := Y) H (by walk_at "m_pick")
        refine ⟨bD, kvsOf (e :: r), sR [frR L (cellsOf w 222 L) [("self", some (.ref sv)), ("domains", some (.ref p.DA)), ("constraints", oca), ("vconstraints", some (.ref p.VA)), ("forwardcheck", some (.bool fb)), ("assignments", some (.ref aA)), ("queue", some (.ref qA)), ("lst", some (.ref D)), ("item", oi), ("variable", ov), ("values", ova), ("pushdomains", opd), ("domain", od), ("constraint", oc), ("variables", ovs)], iR sv 239 sd, fcR sd fb, iR p.c 463 p.cd, csR p.cd (.int p.S p.ts), lR p.nA p.nm, dR w p.DA p.dk p.dep, dR w p.VA p.vk p.vep, vcsR p, famR p.df st p.ns, dR w aA (kvsOf (e :: r)) ep, lR qA (qrefs (e :: r)), qsR p fb (e :: r)], rfl,
          Hs.shut (show Hs g z (frR L (cellsOf w 222 L) [("self", some (.ref sv)), ("domains", some (.ref p.DA)), ("constraints", oca), ("vconstraints", some (.ref p.VA)), ("forwardcheck", some (.bool fb)), ("assignments", some (.ref aA)), ("queue", some (.ref qA)), ("lst", some (.ref D)), ("item", oi), ("variable", ov), ("values", ova), ("pushdomains", opd), ("domain", od), ("constraint", oc), ("variables", ovs)] :: iR sv 239 sd :: fcR sd fb :: iR p.c 463 p.cd :: csR p.cd (.int p.S p.ts) :: lR p.nA p.nm :: dR w p.DA p.dk p.dep :: dR w p.VA p.vk p.vep :: vcsR p :: famR p.df st p.ns :: dR w aA (kvsOf (e :: r)) ep :: lR qA (qrefs (e :: r)) :: qsR p fb (e :: r) :: solsR w (Y ++ [(bD, kvsOf (e :: r))]) :: R) _ from H.sub (by walk_at "m_sub")), fun R' z' s' H' => ?_⟩
        rw [hkY]
        have H : Hs g z' (frR L (cellsOf w 222 L) [("self", some (.ref sv)), ("domains", some (.ref p.DA)), ("constraints", oca), ("vconstraints", some (.ref p.VA)), ("forwardcheck", some (.bool fb)), ("assignments", some (.ref aA)), ("queue", some (.ref qA)), ("lst", some (.ref D)), ("item", oi), ("variable", ov), ("values", ova), ("pushdomains", opd), ("domain", od), ("constraint", oc), ("variables", ovs)] :: iR sv 239 sd :: fcR sd fb :: iR p.c 463 p.cd :: csR p.cd (.int p.S p.ts) :: lR p.nA p.nm :: dR w p.DA p.dk p.dep :: dR w p.VA p.vk p.vep :: vcsR p :: famR p.df st p.ns :: dR w aA (kvsOf (e :: r)) ep :: lR qA (qrefs (e :: r)) :: qsR p fb (e :: r) :: solsR w (Y ++ [(bD, kvsOf (e :: r))]) :: R') s' := Hs.open_ H'
        show SX _ _ _ _ _ _ _
        refine x_stmt ?_
        refine wpAny_If (isTrue_not (isTrue_plain ?_))
        refine nmL (by assumption) (by walk_at "m_take") (by walk_at "m_mem") ?_
        obtain ⟨n1, e1⟩ := qR_at (a := qA) H (by walk_at "m_take")
        refine lst_truthy e1 (by omega) fun n => ?_
        have H := H.tok n
        rw [if_neg (by rw [qrefs_cons]; cases qrefs r <;> simp)]
        refine wpAny_execs_nil ?_
        show SX _ _ _ _ _ _ _
        refine x_stmt ?_
        refine Assign_Tuple ?_ (by kernel_rfl) (by kernel_rfl)
        refine callM ?_
        refine nmL (by assumption) (by walk_at "m_take") (by walk_at "m_mem") ?_
        refine lst_meth H (by walk_at "m_take") PySem.F.slot_list_pop PySem.F.type_list_pop ?_
        rw [qrefs_cons] at H
        refine pop_ (l := qA) (vs := qrefs r) (v := .ref e.ta) H (by walk_at "m_take") (by rw [qrefs_len]; omega) fun s2 H => ?_
        have H := qs_out (e := e) H (by walk_at "m_take")
        obtain ⟨n3, e3⟩ := qR_at (a := e.ta) H Take.head
        refine asg_tup hAb.hd H e3 fun s4 H => ?_
        refine wpAny_assignInOrder_more (wpAny_assign_Name ?_)
        refine stC (L := L) H (by walk_at "m_take") (by walk_at "m_upl") fun s5 H => ?_
        refine wpAny_assignInOrder_more (wpAny_assign_Name ?_)
        refine stL (L := L) H (by walk_at "m_take") (by walk_at "m_upl") fun s6 H => ?_
        refine wpAny_assignInOrder_more (wpAny_assign_Name ?_)
        refine stL (L := L) H (by walk_at "m_take") (by walk_at "m_upl") fun s7 H => ?_
        refine wpAny_assignInOrder_none ?_
        show SX _ _ _ _ _ _ _
        refine x_stmt ?_
        have H : Hs g z' (frR L (cellsOf w 222 L) [("self", some (.ref sv)), ("domains", some (.ref p.DA)), ("constraints", oca), ("vconstraints", some (.ref p.VA)), ("forwardcheck", some (.bool fb)), ("assignments", some (.ref aA)), ("queue", some (.ref qA)), ("lst", some (.ref D)), ("item", oi), ("variable", some (.int e.v e.tv)), ("values", some (.ref e.va)), ("pushdomains", some (pdV fb e.P)), ("domain", od), ("constraint", oc), ("variables", ovs)] :: famR p.df st p.ns :: pdR fb e.P (e.ps.map fun k => Value.ref (p.df k).d) :: lR e.va e.vals :: iR sv 239 sd :: fcR sd fb :: iR p.c 463 p.cd :: csR p.cd (.int p.S p.ts) :: lR p.nA p.nm :: dR w p.DA p.dk p.dep :: dR w p.VA p.vk p.vep :: vcsR p :: dR w aA (kvsOf (e :: r)) ep :: lR qA (qrefs r) :: qsR p fb r :: solsR w (Y ++ [(bD, kvsOf (e :: r))]) :: R') s7 := H.sub (by walk_at "m_sub")
        refine pops_ (lf := fun od => [("self", some (.ref sv)), ("domains", some (.ref p.DA)), ("constraints", oca), ("vconstraints", some (.ref p.VA)), ("forwardcheck", some (.bool fb)), ("assignments", some (.ref aA)), ("queue", some (.ref qA)), ("lst", some (.ref D)), ("item", oi), ("variable", some (.int e.v e.tv)), ("values", some (.ref e.va)), ("pushdomains", some (pdV fb e.P)), ("domain", od), ("constraint", oc), ("variables", ovs)]) (P := e.P) (ps := e.ps) (st := e.st) (c := e.c) (hAb.le (by omega)) B hp H Take.head h2.ps.sub h2.ps.nd h2.ps.len h3 (fun k hk => (h2.node.room k hk).ok) (fun o v => (by walk_at "m_upl")) (fun v => (by walk_at "m_mem")) (fun o => (by walk_at "m_mem")) rfl fun od s8 H => ?_
        show SX _ _ _ _ _ _ _
        refine x_nil ?_
        refine x_pop ?_
        rw [hkF]
        show SX _ _ _ _ _ _ _
        have hYm : YInv p st0 (Y ++ [(bD, kvsOf (e :: r))]) (fun l => Rem p (e :: r) l) := hY.more (fun l => or_congr (hleaf l) Iff.rfl) hdis fun k hk => by
          cases ev : valueAt (kvsOf (e :: r)) k with
          | none => exact absurd ev (hm0 k hk)
          | some x => exact ⟨x, rfl, hN.all k x ev⟩
        have hmu : mu p.ns.length (e :: r) = e.vals.length * TT (p.ns.length - (r.length + 1)) + mu p.ns.length r := rfl
        refine restX (used0 := some e.x) (c := .whileLoop t b o (callEnvC (fdOf w 222) L 222)) (R := solsR w (Y ++ [(bD, kvsOf (e :: r))]) :: R') (by kernel_rfl) (hA1.le (by omega)) B hp h1 h2 (fun h => by cases h) (show Hs g z' (frR L (cellsOf w 222 L) [("self", some (.ref sv)), ("domains", some (.ref p.DA)), ("constraints", oca), ("vconstraints", some (.ref p.VA)), ("forwardcheck", some (.bool fb)), ("assignments", some (.ref aA)), ("queue", some (.ref qA)), ("lst", some (.ref D)), ("item", oi), ("variable", some (.int e.v e.tv)), ("values", some (.ref e.va)), ("pushdomains", some (pdV fb e.P)), ("domain", od), ("constraint", oc), ("variables", ovs)] :: lR e.va e.vals :: pdR fb e.P (e.ps.map fun k => Value.ref (p.df k).d) :: iR sv 239 sd :: fcR sd fb :: iR p.c 463 p.cd :: csR p.cd (.int p.S p.ts) :: lR p.nA p.nm :: dR w p.DA p.dk p.dep :: dR w p.VA p.vk p.vep :: vcsR p :: famR p.df e.st p.ns :: dR w aA (kvsOf (e :: r)) ep :: lR qA (qrefs r) :: qsR p fb r :: solsR w (Y ++ [(bD, kvsOf (e :: r))]) :: R') _ from H.sub (by walk_at "m_sub"))
          (fun q' st2 ep ov ova opd od oc ovs s' h1 h2 h3 h4 h5 h6 H => ?_) (fun h s' H => ?_)
        · exact hgo q' st2 ep ov ova opd od oc ovs _ _ n' _ R' z' s' (by omega) (by omega) h1 h2 h3 h4 (hYm.congr h5) H
        · exact hfin n' _ R' z' s' (hYm.done h) H
end
end
section
section
variable {w : World} {g : Heap} {z : Shared} {p : Pb} {A : Around} {s : Shared} {M M' R : List Res}
theorem cwG {fa : Addr} {pos : Pos} {first : List Value} {args : List (Bool × Sem Value)} {Q : Value → Shared → Prop}
    (h : W w A (evalArgs (.ref fa) true args []) (fun a s₁ => a.kw = [] ∧ (Kf w).In s₁.heap ∧ W w A (call (.ref fa) (first ++ a.pos)) Q s₁) s) (hf : gnOk w fa = true := by kernel_rfl) :
    W w A (callWith pos (.ref fa) first args []) Q s := by
  unfold gnOk at hf
  split at hf
  · rename_i oc od fd sl ho
    refine Calls.callWith_function (o := ⟨oc, od, .func fd, sl⟩) (fd := fd) (wpAny_mono h (fun a s₁ h₁ => ?_) fun _ _ f => f)
    obtain ⟨hk, X, h₁⟩ := h₁
    exact ⟨⟨X _ _ ho, rfl⟩, by rw [hk]; exact h₁⟩
  · cases hf
theorem push_set {α : Type} (G : Array α) (a b : α) : (G.push a).setIfInBounds G.size b = G.push b := by
  simp [Array.setIfInBounds]
  apply Array.ext' ; simp
/-- from the generator's start -/
theorem gen_start {L sv sd : Addr} {oca : Value} {fb : Bool} {st0 : Int → DS} {n : Nat} (hA : Ok 60 A) (B : Base w g) (hp : p.Ok) (hn : TT p.ns.length ≤ n) (hN : Node p [] st0) (hne : ∀ k ∈ p.ns, (st0 k).xs ≠ [])
    (H : Hs g z (frR L (cellsOf w 222 L) [("self", some (.ref sv)), ("domains", some (.ref p.DA)), ("constraints", some oca), ("vconstraints", some (.ref p.VA)), ("forwardcheck", none), ("assignments", none), ("queue", none), ("lst", none), ("item", none), ("variable", none), ("values", none), ("pushdomains", none), ("domain", none), ("constraint", none), ("variables", none)] :: iR sv 239 sd :: fcR sd fb :: iR p.c 463 p.cd :: csR p.cd (.int p.S p.ts) :: lR p.nA p.nm :: dR w p.DA p.dk p.dep :: dR w p.VA p.vk p.vep :: vcsR p :: famR p.df st0 p.ns :: solsR w [] :: R) s) :
    SX w A (.func (bodyOf w 222) (callEnvC (fdOf w 222) L 222)) (denote table (.func (bodyOf w 222) (callEnvC (fdOf w 222) L 222))) [] s (GPost w A g p st0 n [] R z) := by
  have hl2 := hp.l2
  refine x_func fun Hx => ?_
  with_unfolding_all refine x_stmt ?_
  refine wpAny_Assign_Name ?_ (by kernel_rfl)
  refine eAttr ?_
  refine nmL (by assumption) (by walk_at "m_take") (by walk_at "m_mem") ?_
  refine sv_fc B H (by walk_at "m_take") (by walk_at "m_take") fun H => ?_
  refine stL (L := L) H (by walk_at "m_take") (by walk_at "m_upl") fun s21 H => ?_
  show SX _ _ _ _ _ _ _
  refine x_stmt ?_
  refine wpAny_Assign_Name ?_ (by kernel_rfl)
  refine d_new B H fun aA s22 H => ?_
  refine stC (L := L) H (by walk_at "m_take") (by walk_at "m_upl") fun s23 H => ?_
  show SX _ _ _ _ _ _ _
  refine x_stmt ?_
  refine wpAny_Assign_Name ?_ (by kernel_rfl)
  refine list_ ?_
  refine spliced_nil ?_
  refine ⟨g, z, _, H, by simp, fun qA s24 H => ?_⟩
  refine stL (L := L) H (by walk_at "m_take") (by walk_at "m_upl") fun s25 H => ?_
  show SX _ _ _ _ _ _ _
  refine x_cons ?_
  refine x_while ?_
  intro pF kF hkF
  have H : Hs g z (sR [] :: _) s25 := Hs.shut (l := []) H
  refine outerX (L := L) (sv := sv) (sd := sd) (qA := qA) (aA := aA) (oca := some oca) (fb := fb) (st0 := st0) (by kernel_rfl) B hp rfl rfl ?_ ?_ ?_ ?_ _ n [] st0 0 [] R z none none none none none none none none s25 rfl ?_ trivial hN (fun k hk _ => hne k hk) (fun h => ?_) ⟨by simp, fun q hq => (by cases hq), fun l => ?_, fun l hl => (by simp at hl)⟩ ?_
  · exact Ok.over 1 (hA.le (by omega)) rfl (by exact Nat.le_refl 1) (by show (3 : Nat) ≤ 20; omega)
  · intro tg it bd oe kF pF; exact Ok.over 1 (hA.le (by omega)) rfl (by exact Nat.le_refl 1) (by show (3 : Nat) ≤ 20; omega)
  · intro bd kF pF; exact Ok.over 1 (hA.le (by omega)) rfl (by exact Nat.le_refl 1) (by show (3 : Nat) ≤ 20; omega)
  · intro s P hP
    refine x_pop ?_
    rw [hkF]
    exact x_end hP
  · show 0 + TT (p.ns.length - 0) ≤ n; rw [Nat.zero_add]; exact hn
  · exfalso
    have : miss [] p.ns = true := by
      cases hns : p.ns with
      | nil => rw [hns] at hl2; simp at hl2
      | cons a r => exact miss_of List.mem_cons_self rfl
    have h' : miss [] p.ns = false := h
    rw [this] at h'; cases h'
  · exact ⟨fun h => .inr (.inl h), fun h => by
      rcases h with h | h | h
      · simp at h
      · exact h
      · exact h.elim⟩
  · exact (show Hs g z (frR L (cellsOf w 222 L) [("self", some (.ref sv)), ("domains", some (.ref p.DA)), ("constraints", some oca), ("vconstraints", some (.ref p.VA)), ("forwardcheck", some (.bool fb)), ("assignments", some (.ref aA)), ("queue", some (.ref qA)), ("lst", none), ("item", none), ("variable", none), ("values", none), ("pushdomains", none), ("domain", none), ("constraint", none), ("variables", none)] :: iR sv 239 sd :: fcR sd fb :: iR p.c 463 p.cd :: csR p.cd (.int p.S p.ts) :: lR p.nA p.nm :: dR w p.DA p.dk p.dep :: dR w p.VA p.vk p.vep :: vcsR p :: famR p.df st0 p.ns :: dR w aA [] 0 :: lR qA [] :: sR [] :: solsR w [] :: R) s25 from H.sub (by walk_at "m_sub"))
theorem get_bt {sv sd : Addr} {ca : Value} {fb : Bool} {st0 : Int → DS} {Q : Value → Shared → Prop} (hA : Ok 80 A) (B : Base w g) (hp : p.Ok) (hN : Node p [] st0) (hne : ∀ k ∈ p.ns, (st0 k).xs ≠ []) (H : Hs g z (iR sv 239 sd :: fcR sd fb :: iR p.c 463 p.cd :: csR p.cd (.int p.S p.ts) :: lR p.nA p.nm :: dR w p.DA p.dk p.dep :: dR w p.VA p.vk p.vep :: vcsR p :: famR p.df st0 p.ns :: R) s)
    (q : ∀ S Y z' s', Sol p.S p.ns (Comp p.S p.ns [] st0) Y → Y.length ≤ 100 → z'.os = z.os → (AllBare z.gens → AllBare z'.gens) → Hs g z' (lR S (Y.map fun q => .ref q.1) :: solsR w Y :: lR p.nA p.nm :: R) s' → Q (.ref S) s') :
    W w A (call (.ref 236) [.ref sv, .ref p.DA, ca, .ref p.VA]) Q s := by
  have hl4 := hp.l4
  have hb : BindsTo s (fdOf w 236) ⟨[.ref sv, .ref p.DA, ca, .ref p.VA], []⟩ [("self", .ref sv), ("domains", .ref p.DA), ("constraints", ca), ("vconstraints", .ref p.VA)] := BindsTo.of_eq (by kernel_rfl)
  refine call_fn (k := 79) (l := [("self", some (.ref sv)), ("domains", some (.ref p.DA)), ("constraints", some ca), ("vconstraints", some (.ref p.VA))]) hA B H hb ?_
  intro L s' H hA'
  with_unfolding_all refine wpAny_execs_cons ?_
  refine wpAny_Return_some ?_
  refine Call_Name1 ?_
  refine nmB (v := .type "list") B H ?_
  refine PyProof.Rows.callWith_type rfl (evalArgs1 ?_)
  refine callM ?_
  refine nmL (by assumption) (by walk_at "m_take") (by walk_at "m_mem") ?_
  refine sv_meth (f := 222) B H (by walk_at "m_take") (by walk_at "m_take") (by intros; kernel_rfl) ?_
  refine cwG ?_
  refine evalArgs_plain (spliced_cons ?_)
  refine nmL (by assumption) (by walk_at "m_take") (by walk_at "m_mem") ?_
  refine spliced_cons ?_
  refine nmL (by assumption) (by walk_at "m_take") (by walk_at "m_mem") ?_
  refine spliced_cons ?_
  refine nmL (by assumption) (by walk_at "m_take") (by walk_at "m_mem") ?_
  refine spliced_nil ?_
  refine ⟨rfl, B.x H, ?_⟩
  have hb : BindsTo s' (fdOf w 222) ⟨[.ref sv, .ref p.DA, ca, .ref p.VA], []⟩ [("self", .ref sv), ("domains", .ref p.DA), ("constraints", ca), ("vconstraints", .ref p.VA)] := BindsTo.of_eq (by kernel_rfl)
  refine call_gen (k := 78) (l := [("self", some (.ref sv)), ("domains", some (.ref p.DA)), ("constraints", some ca), ("vconstraints", some (.ref p.VA)), ("forwardcheck", none), ("assignments", none), ("queue", none), ("lst", none), ("item", none), ("variable", none), ("values", none), ("pushdomains", none), ("domain", none), ("constraint", none), ("variables", none)]) hA' B H hb fun L2 I s2 H => ?_
  have hT : TT p.ns.length ≤ 31 := by
    have : ∀ k, k ≤ 4 → TT k ≤ 31 := by decide
    exact this _ hl4
  generalize hgi : z.gens.size = gi at *
  generalize hA3 : (A.deeper (callEnvC (fdOf w 236) L 236)) = A3 at *
  let J : Nat → List Value → Shared → List Res → Prop := fun n acc z' M => ∃ Y X gs c t fs, acc = Y.map (fun q => .ref q.1) ∧ Y.length + n ≤ 100 ∧ M = genR I gi :: X :: solsR w Y :: R ∧ z' = { z with gens := z.gens.push gs } ∧
    ((gs = .fresh c ∧ t = denote table c ∧ fs = []) ∨ (∃ k₀ l₀ p₀ cl, gs = .suspended k₀ l₀ c p₀ fs cl ∧ t = k₀ (.send .none))) ∧ ∀ R' z' s', Hs g z' (X :: solsR w Y :: R') s' → SX w A3.in1.in1.in1 c t fs s' (GPost w A3.in1.in1.in1 g p st0 n Y R' z')
  let Fi : List Value → Shared → List Res → Prop := fun acc z' M => ∃ Y, acc = Y.map (fun q => .ref q.1) ∧ Y.length ≤ 100 ∧ Sol p.S p.ns (Comp p.S p.ns [] st0) Y ∧ M = solsR w Y :: lR p.nA p.nm :: R ∧ z' = { z with gens := z.gens.push .finished }
  have H : Hs g { z with gens := z.gens.push (.fresh (.func (bodyOf w 222) (callEnvC (fdOf w 222) L2 222))) } (genR I gi :: sR [frR L2 (cellsOf w 222 L2) [("self", some (.ref sv)), ("domains", some (.ref p.DA)), ("constraints", some ca), ("vconstraints", some (.ref p.VA)), ("forwardcheck", none), ("assignments", none), ("queue", none), ("lst", none), ("item", none), ("variable", none), ("values", none), ("pushdomains", none), ("domain", none), ("constraint", none), ("variables", none)], iR sv 239 sd, fcR sd fb, iR p.c 463 p.cd, csR p.cd (.int p.S p.ts), lR p.nA p.nm, dR w p.DA p.dk p.dep, dR w p.VA p.vk p.vep, vcsR p, famR p.df st0 p.ns] :: solsR w [] :: R) s2 := by
    have H1 := sols_nil (w := w) H
    have H2 := Hs.shut (l := [frR L2 (cellsOf w 222 L2) [("self", some (.ref sv)), ("domains", some (.ref p.DA)), ("constraints", some ca), ("vconstraints", some (.ref p.VA)), ("forwardcheck", none), ("assignments", none), ("queue", none), ("lst", none), ("item", none), ("variable", none), ("values", none), ("pushdomains", none), ("domain", none), ("constraint", none), ("variables", none)], iR sv 239 sd, fcR sd fb, iR p.c 463 p.cd, csR p.cd (.int p.S p.ts), lR p.nA p.nm, dR w p.DA p.dk p.dep, dR w p.VA p.vk p.vep, vcsR p, famR p.df st0 p.ns]) (M := genR I gi :: solsR w [] :: R) (show Hs g _ (frR L2 (cellsOf w 222 L2) [("self", some (.ref sv)), ("domains", some (.ref p.DA)), ("constraints", some ca), ("vconstraints", some (.ref p.VA)), ("forwardcheck", none), ("assignments", none), ("queue", none), ("lst", none), ("item", none), ("variable", none), ("values", none), ("pushdomains", none), ("domain", none), ("constraint", none), ("variables", none)] :: iR sv 239 sd :: fcR sd fb :: iR p.c 463 p.cd :: csR p.cd (.int p.S p.ts) :: lR p.nA p.nm :: dR w p.DA p.dk p.dep :: dR w p.VA p.vk p.vep :: vcsR p :: famR p.df st0 p.ns :: genR I gi :: solsR w [] :: R) _ from H1.sub (by walk_at "m_sub"))
    exact H2.sub (by walk_at "m_sub")
  refine list_gen (I := I) (gi := gi) (m := 31) J Fi H Take.head ⟨[], _, _, _, _, [], rfl, by simp, rfl, rfl, .inl ⟨rfl, rfl, rfl⟩, fun R' z' s' H => ?_⟩ ?_ ?_
  · have H := Hs.open_ H
    have H : Hs g z' (frR L2 (cellsOf w 222 L2) [("self", some (.ref sv)), ("domains", some (.ref p.DA)), ("constraints", some ca), ("vconstraints", some (.ref p.VA)), ("forwardcheck", none), ("assignments", none), ("queue", none), ("lst", none), ("item", none), ("variable", none), ("values", none), ("pushdomains", none), ("domain", none), ("constraint", none), ("variables", none)] :: iR sv 239 sd :: fcR sd fb :: iR p.c 463 p.cd :: csR p.cd (.int p.S p.ts) :: lR p.nA p.nm :: dR w p.DA p.dk p.dep :: dR w p.VA p.vk p.vep :: vcsR p :: famR p.df st0 p.ns :: solsR w [] :: R') s' := H
    exact gen_start (L := L2) (sv := sv) (sd := sd) (oca := ca) (fb := fb) (st0 := st0) ((((hA'.le (j := 63) (by omega)).in1).in1).in1) B hp hT hN hne H
  · rintro S n acc z1 M s ⟨Y, X, gs, c, t, fs, rfl, hYl, rfl, rfl, hgs, hx⟩ H
    have eg : s.gens = z.gens.push gs := H.gens
    have hg1 : s.gens[gi]? = some gs := by rw [eg, ← hgi]; simp
    have hO := (((hA'.le (j := 63) (by omega)).in1).in1)
    have Hr : Hs g { z with gens := z.gens.push .running } (X :: solsR w Y :: lR S (Y.map fun q => .ref q.1) :: genR I gi :: R) (s.setGen gi .running) := by
      have h1 := H.gensTo (s.gens.setIfInBounds gi .running)
      rw [show s.gens.setIfInBounds gi .running = z.gens.push .running by rw [eg, ← hgi]; exact push_set ..] at h1
      have e2 : s.setGen gi .running = { s with gens := z.gens.push .running } := by unfold Shared.setGen; rw [show s.gens.setIfInBounds gi .running = z.gens.push .running by rw [eg, ← hgi]; exact push_set ..]
      rw [e2]
      exact h1.sub (by walk_at "m_sub")
    refine next_gen hO.hd (B.lim.keeps H.base) hO.room (gen_at H (by walk_at "m_take")) hg1 hgs (hx (lR S (Y.map fun q => .ref q.1) :: genR I gi :: R) _ _ Hr) fun e s₁ hp => ?_
    cases e with
    | ret r =>
      have hp' : r = .ok (.ret .none) ∧ Sol p.S p.ns (Comp p.S p.ns [] st0) Y ∧ Hs g { z with gens := z.gens.push .running } (solsR w Y :: lR p.nA p.nm :: lR S (Y.map fun q => .ref q.1) :: genR I gi :: R) s₁ := by cases n <;> exact hp
      obtain ⟨rfl, hsol, H1⟩ := hp'
      refine .inr ⟨rfl, fun h' hk => ?_⟩
      refine ⟨{ z with gens := z.gens.push .finished }, solsR w Y :: lR p.nA p.nm :: R, ⟨Y, rfl, by omega, hsol, rfl, rfl⟩, ?_⟩
      have e2 : s₁.setGen gi .finished = { s₁ with gens := z.gens.push .finished } := by unfold Shared.setGen; rw [show s₁.gens.setIfInBounds gi .finished = z.gens.push .finished by rw [H1.gens, ← hgi]; exact push_set ..]
      rw [e2]
      have H2 := (H1.gensTo (z.gens.push .finished)).keeps (s' := { s₁ with gens := z.gens.push .finished, heap := h' }) ⟨h', s₁.toks, rfl, hk⟩
      exact H2.sub (by walk_at "m_sub")
    | susp v g' l k c p' fs =>
      cases n with
      | zero => exact hp.elim
      | succ n =>
        obtain ⟨a, kvs, X', rfl, H1, hnext⟩ := hp
        refine .inl ⟨_, _, _, _, _, _, _, rfl, ?_⟩
        refine ⟨n, { z with gens := z.gens.push (End.susp (.ref a) g' l k c p' fs).genState }, genR I gi :: X' :: solsR w (Y ++ [(a, kvs)]) :: R, Nat.lt_succ_self _, by simp; omega, ⟨Y ++ [(a, kvs)], X', _, c, _, fs, by simp, by simp; omega, rfl, rfl, .inr ⟨k, l, p', _, rfl, rfl⟩, hnext⟩, ?_⟩
        have e2 : s₁.setGen gi (End.susp (.ref a) g' l k c p' fs).genState = { s₁ with gens := z.gens.push (End.susp (.ref a) g' l k c p' fs).genState } := by unfold Shared.setGen; rw [show s₁.gens.setIfInBounds gi (End.susp (.ref a) g' l k c p' fs).genState = z.gens.push (End.susp (.ref a) g' l k c p' fs).genState by rw [H1.gens, ← hgi]; exact push_set ..]
        rw [e2]
        exact (H1.gensTo _).sub (by walk_at "m_sub")
  · rintro S acc z1 M s ⟨Y, rfl, hYl, hsol, rfl, rfl⟩ H
    exact q S Y { z with gens := z.gens.push .finished } s hsol hYl rfl (fun h => h.push rfl) H
end
end
section
section
variable {w : World} {g : Heap} {z : Shared} {p : Pb} {A : Around} {s : Shared} {M M' R : List Res}
theorem get_rec {sv sd : Addr} {ca : Value} {fb : Bool} {st0 : Int → DS} {Q : Value → Shared → Prop} (hA : Ok 300 A) (B : Base w g) (hp : p.Ok) (hN : Node p [] st0) (H : Hs g z (iR sv 278 sd :: fcR sd fb :: iR p.c 463 p.cd :: csR p.cd (.int p.S p.ts) :: lR p.nA p.nm :: dR w p.DA p.dk p.dep :: dR w p.VA p.vk p.vep :: vcsR p :: famR p.df st0 p.ns :: R) s)
    (q : ∀ S Y z' s', Sol p.S p.ns (Comp p.S p.ns [] st0) Y → Y.length ≤ 100 → z'.os = z.os → (AllBare z.gens → AllBare z'.gens) → Hs g z' (lR S (Y.map fun q => .ref q.1) :: solsR w Y :: lR p.nA p.nm :: R) s' → Q (.ref S) s') :
    W w A (call (.ref 275) [.ref sv, .ref p.DA, ca, .ref p.VA]) Q s := by
  have hl4 := hp.l4
  have hl2 := hp.l2
  have hb : BindsTo s (fdOf w 275) ⟨[.ref sv, .ref p.DA, ca, .ref p.VA], []⟩ [("self", .ref sv), ("domains", .ref p.DA), ("constraints", ca), ("vconstraints", .ref p.VA)] := BindsTo.of_eq (by kernel_rfl)
  refine call_fn (k := 299) (l := [("self", some (.ref sv)), ("domains", some (.ref p.DA)), ("constraints", some ca), ("vconstraints", some (.ref p.VA))]) hA B H hb ?_
  intro L s' H hA'
  with_unfolding_all refine wpAny_execs_cons ?_
  refine wpAny_Return_some ?_
  refine callM ?_
  refine nmL (by assumption) (by walk_at "m_take") (by walk_at "m_mem") ?_
  refine sv_meth (f := 261) B H (by walk_at "m_take") (by walk_at "m_take") (by intros; kernel_rfl) ?_
  refine cwF ?_
  refine evalArgs_plain (spliced_cons ?_)
  refine list_ ?_
  refine spliced_nil ?_
  refine ⟨g, z, _, H, by simp, fun solA s24 H => ?_⟩
  refine spliced_cons ?_
  refine nmL (by assumption) (by walk_at "m_take") (by walk_at "m_mem") ?_
  refine spliced_cons ?_
  refine nmL (by assumption) (by walk_at "m_take") (by walk_at "m_mem") ?_
  refine spliced_cons ?_
  refine d_new B H fun aA s22 H => ?_
  refine spliced_cons ?_
  refine wpAny_Constant_bool (k := 0) (pos := ⟨0, 0, 0, 0⟩) ?_
  refine spliced_nil ?_
  refine ⟨rfl, B.x H, ?_⟩
  have hun : unN p.ns [] = p.ns.length := by
    have := hN.len
    rw [List.length_nil] at this; omega
  have hpow : 2 ^ p.ns.length ≤ 16 := by
    have : ∀ k, k ≤ 4 → 2 ^ k ≤ 16 := by decide
    exact this _ hl4
  refine rec_ (sv := sv) (sd := sd) (solA := solA) (aA := aA) (fb := fb) B hp p.ns.length (A := _) (R := R) (sols := []) (kvs := []) (ep := 0) (st := st0) (hA'.le (by omega)) (H.sub (by walk_at "m_sub")) hun hN.all (by rw [List.length_nil]; omega) (fun k hk => by have := hN.room k hk; rwa [hun] at this) hN.two hN.nn (fun h => ?_) (by rw [List.length_nil]; omega) fun new ep' s' hsol hnl H => ?_
  · exfalso
    have : miss [] p.ns = true := by
      cases hns : p.ns with
      | nil => rw [hns] at hl2; simp at hl2
      | cons a r => exact miss_of List.mem_cons_self rfl
    rw [this] at h; cases h
  · rw [List.nil_append] at H
    exact q solA new z s' hsol (by omega) rfl id (H.sub (by walk_at "m_sub"))
end
end
section
section
variable {w : World} {g : Heap} {z : Shared} {A : Around} {s : Shared} {M M' R : List Res} {env : Env}
theorem putL_le {name : Str} {h : Int} {k v : Value} : ∀ {es : List DictEntry} {n : Nat}, es.length ≤ n → (putL name h k v es).length ≤ n + 1
  | [], n, _ => by simp [putL]
  | e :: r, n, hl => by
    unfold putL
    split
    · simp only [List.length_cons] at hl ⊢; omega
    · rw [List.length_cons] at hl ⊢
      obtain ⟨m, rfl⟩ : ∃ m, n = m + 1 := ⟨n - 1, by omega⟩
      have := putL_le (name := name) (h := h) (k := k) (v := v) (es := r) (n := m) (by omega)
      omega
/-- something that stands in the text is called -/
theorem cwK {f : Value} {pos : Pos} {first : List Value} {args : List (Bool × Sem Value)} {Q : Value → Shared → Prop} (hplain : args.any (·.1) = false)
    (h : W w A (evalArgs f true args []) (fun a s₁ => a.kw = [] ∧ (Kf w).In s₁.heap ∧ W w A (call f (first ++ a.pos)) Q s₁) s) (hk : keepIn (Kf w) f = true := by kernel_rfl) :
    W w A (callWith pos f first args []) Q s :=
  callWith_of (by rw [hplain]; rfl) (keeps_K hk) (wpAny_mono h (fun a s₁ h₁ => ⟨h₁.2.1, by rw [h₁.1]; exact h₁.2.2⟩) fun _ _ f => f)
theorem truthy_own {x dx C : Addr} {ox : Obj} {od : Option Obj} {Q : Bool → Shared → Prop} (B : Base w g) (H : Hs g z M s) (I : InstAt s.heap x ox C od) (q : Q true s) (hs : findIn (Kf w) (.ref C) "__bool__" = some none := by kernel_rfl) (hl : findIn (Kf w) (.ref C) "__len__" = some none := by kernel_rfl) :
    W w A (truthy (.ref x)) Q s := by
  have X := B.x H
  unfold truthy
  refine wpAny_bind (m := callSpecial? (.ref x) (Str.ofString "__bool__")) (wpAny_bind (wpAny_bind (I.type.here ((looks_findIn X hs).here (wpAny_pure ?_)))))
  refine wpAny_bind (wpAny_bind (I.type.here ((looks_findIn X hl).here ?_)))
  exact wpAny_pure q
theorem mk_bt {k : Nat} {b : Bool} {Q : Value → Shared → Prop} (hA : Ok (k + 4) A) (B : Base w g) (H : Hs g z M s) (q : ∀ x dx s', Hs g z (iR x 239 dx :: fcR dx b :: M) s' → Q (.ref x) s') : W w A (call (.ref 239) [.bool b]) Q s := by
  refine make_ (k := k + 3) (fI := 217) hA B H fun x dx s1 A' hA' H => ?_
  have H : Hs g z (iR x 239 dx :: eR dx [] :: M) s1 := H
  have hb : BindsTo s1 (fdOf w 217) ⟨[.ref x, .bool b], []⟩ [("self", .ref x), ("forwardcheck", .bool b)] := bind_d (T := 210) (B.x H)
  refine code_fn (k := k + 2) (l := [("self", some (.ref x)), ("forwardcheck", some (.bool b))]) hA' B H hb ?_
  intro L s' H hA'
  with_unfolding_all refine wpAny_execs_cons ?_
  refine plainObj_wpAny_Assign_Attribute ?_ (by kernel_rfl)
  refine nmL (by assumption) (by walk_at "m_take") (by walk_at "m_mem") ?_
  refine nmL (by assumption) (by walk_at "m_take") (by walk_at "m_mem") ?_
  obtain ⟨_, e3, rfl⟩ := H.get (x := iR x 239 dx) (by walk_at "m_take")
  refine setA (mro := [.ref 239, .ref 198, .type "object"]) B H e3 rfl rfl rfl (es := []) (by walk_at "m_take") (by kernel_rfl) (by intros; simp [putL]) fun h1 t1 s3 H => ?_
  show W _ _ _ _ _
  refine wpAny_execs_nil ?_
  have H := H.imp (r' := fcR dx b) (fun _ f => f) (fun ⟨o, e, n, eo⟩ => ⟨o, e, h1, t1, n, eo⟩)
  exact ⟨rfl, q x dx s3 (H.sub (by walk_at "m_sub"))⟩
theorem mk_rec {k : Nat} {b : Bool} {Q : Value → Shared → Prop} (hA : Ok (k + 4) A) (B : Base w g) (H : Hs g z M s) (q : ∀ x dx s', Hs g z (iR x 278 dx :: fcR dx b :: M) s' → Q (.ref x) s') : W w A (call (.ref 278) [.bool b]) Q s := by
  refine make_ (k := k + 3) (fI := 256) hA B H fun x dx s1 A' hA' H => ?_
  have H : Hs g z (iR x 278 dx :: eR dx [] :: M) s1 := H
  have hb : BindsTo s1 (fdOf w 256) ⟨[.ref x, .bool b], []⟩ [("self", .ref x), ("forwardcheck", .bool b)] := bind_d (T := 249) (B.x H)
  refine code_fn (k := k + 2) (l := [("self", some (.ref x)), ("forwardcheck", some (.bool b))]) hA' B H hb ?_
  intro L s' H hA'
  with_unfolding_all refine wpAny_execs_cons ?_
  refine plainObj_wpAny_Assign_Attribute ?_ (by kernel_rfl)
  refine nmL (by assumption) (by walk_at "m_take") (by walk_at "m_mem") ?_
  refine nmL (by assumption) (by walk_at "m_take") (by walk_at "m_mem") ?_
  obtain ⟨_, e3, rfl⟩ := H.get (x := iR x 278 dx) (by walk_at "m_take")
  refine setA (mro := [.ref 278, .ref 198, .type "object"]) B H e3 rfl rfl rfl (es := []) (by walk_at "m_take") (by kernel_rfl) (by intros; simp [putL]) fun h1 t1 s3 H => ?_
  show W _ _ _ _ _
  refine wpAny_execs_nil ?_
  have H := H.imp (r' := fcR dx b) (fun _ f => f) (fun ⟨o, e, n, eo⟩ => ⟨o, e, h1, t1, n, eo⟩)
  exact ⟨rfl, q x dx s3 (H.sub (by walk_at "m_sub"))⟩
theorem mk_es {k : Nat} {S : Value} {Q : Value → Shared → Prop} (hA : Ok (k + 4) A) (B : Base w g) (H : Hs g z M s) (q : ∀ x dx s', Hs g z (iR x 463 dx :: csR dx S :: M) s' → Q (.ref x) s') : W w A (call (.ref 463) [S]) Q s := by
  refine make_ (k := k + 3) (fI := 445) hA B H fun x dx s1 A' hA' H => ?_
  have H : Hs g z (iR x 463 dx :: eR dx [] :: M) s1 := H
  have hb : BindsTo s1 (fdOf w 445) ⟨[.ref x, S], []⟩ [("self", .ref x), ("exactsum", S), ("multipliers", .none)] := bind_d (T := 438) (B.x H)
  refine code_fn (k := k + 2) (l := [("self", some (.ref x)), ("exactsum", some S), ("multipliers", some .none)]) hA' B H hb ?_
  intro L s' H hA'
  with_unfolding_all refine wpAny_execs_cons ?_
  refine plainObj_wpAny_Assign_Attribute ?_ (by kernel_rfl)
  refine nmL (by assumption) (by walk_at "m_take") (by walk_at "m_mem") ?_
  refine nmL (by assumption) (by walk_at "m_take") (by walk_at "m_mem") ?_
  obtain ⟨_, e3, rfl⟩ := H.get (x := iR x 463 dx) (by walk_at "m_take")
  refine setA (mro := [.ref 463, .ref 400, .type "object"]) B H e3 rfl rfl rfl (es := []) (by walk_at "m_take") (by kernel_rfl) (by intros; simp [putL]) fun h1 t1 s3 H => ?_
  show W _ _ _ _ _
  refine wpAny_execs_cons ?_
  refine plainObj_wpAny_Assign_Attribute ?_ (by kernel_rfl)
  refine nmL (by assumption) (by walk_at "m_take") (by walk_at "m_mem") ?_
  refine nmL (by assumption) (by walk_at "m_take") (by walk_at "m_mem") ?_
  obtain ⟨_, e3, rfl⟩ := H.get (x := iR x 463 dx) (by walk_at "m_take")
  refine setA (mro := [.ref 463, .ref 400, .type "object"]) (name := "_multipliers") B H e3 rfl rfl rfl (es := putL (Str.ofString "_exactsum") h1 (.str (Str.ofString "_exactsum") t1) S []) (by walk_at "m_take") (by kernel_rfl) (fun _ _ => putL_le (n := 999) (putL_le (n := 998) (Nat.zero_le _))) fun h2 t2 s3 H => ?_
  show W _ _ _ _ _
  refine wpAny_execs_nil ?_
  have H := H.imp (r' := csR dx S) (fun _ f => f) (fun ⟨o, e, n, eo⟩ => ⟨o, e, h1, h2, t1, t2, n, eo⟩)
  exact ⟨rfl, q x dx _ (H.sub (by walk_at "m_sub"))⟩
/-- the problem's attributes -/
def prR (pd sv cl va : Addr) : Res := cR pd fun o => ∃ h1 h2 h3 t1 t2 t3 n, o = dictOf [⟨h1, .str "_solver" t1, .ref sv⟩, ⟨h2, .str "_constraints" t2, .ref cl⟩, ⟨h3, .str "_variables" t3, .ref va⟩] n
theorem mk_pr {k : Nat} {sv : Addr} {Q : Value → Shared → Prop} (hA : Ok (k + 4) A) (B : Base w g) (H : Hs g z M s) (hsv : ∀ (s' : Shared) (A' : Around) (L x dx : Addr) l (Q : Bool → Shared → Prop), Hs g z (frR L (cellsOf w 89 L) l :: iR x 163 dx :: eR dx [] :: M) s' → Q true s' → W w A' (truthy (.ref sv)) Q s')
    (q : ∀ x dx cl va s', Hs g z (iR x 163 dx :: prR dx sv cl va :: lR cl [] :: dR w va [] 0 :: M) s' → Q (.ref x) s') : W w A (call (.ref 163) [.ref sv]) Q s := by
  refine make_ (k := k + 3) (fI := 89) hA B H fun x dx s1 A' hA' H => ?_
  have H : Hs g z (iR x 163 dx :: eR dx [] :: M) s1 := H
  have hb : BindsTo s1 (fdOf w 89) ⟨[.ref x, .ref sv], []⟩ [("self", .ref x), ("solver", .ref sv)] := bind_d (T := 82) (B.x H)
  refine code_fn (k := k + 2) (l := [("self", some (.ref x)), ("solver", some (.ref sv))]) hA' B H hb ?_
  intro L s' H hA'
  with_unfolding_all refine wpAny_execs_cons ?_
  refine plainObj_wpAny_Assign_Attribute ?_ (by kernel_rfl)
  refine BoolOp_or ?_
  refine nmL (by assumption) (by walk_at "m_take") (by walk_at "m_mem") ?_
  refine hsv _ _ _ _ _ _ _ H ?_
  rw [if_pos rfl]
  refine nmL (by assumption) (by walk_at "m_take") (by walk_at "m_mem") ?_
  obtain ⟨_, e3, rfl⟩ := H.get (x := iR x 163 dx) (by walk_at "m_take")
  refine setA (mro := [.ref 163, .type "object"]) B H e3 rfl rfl rfl (es := []) (by walk_at "m_take") (by kernel_rfl) (by intros; simp [putL]) fun h1 t1 s3 H => ?_
  show W _ _ _ _ _
  refine wpAny_execs_cons ?_
  refine plainObj_wpAny_Assign_Attribute ?_ (by kernel_rfl)
  refine Mine.list_ (Calls.spliced_nil ⟨g, z, _, H, by simp, fun cl s4 H => ?_⟩)
  refine nmL (by assumption) (by walk_at "m_take") (by walk_at "m_mem") ?_
  obtain ⟨_, e3, rfl⟩ := H.get (x := iR x 163 dx) (by walk_at "m_take")
  refine setA (mro := [.ref 163, .type "object"]) (name := "_constraints") B H e3 rfl rfl rfl (es := putL (Str.ofString "_solver") h1 (.str (Str.ofString "_solver") t1) (.ref sv) []) (by walk_at "m_take") (by kernel_rfl) (fun _ _ => putL_le (n := 999) (putL_le (n := 998) (Nat.zero_le _))) fun h2 t2 s3 H => ?_
  show W _ _ _ _ _
  refine wpAny_execs_cons ?_
  refine plainObj_wpAny_Assign_Attribute ?_ (by kernel_rfl)
  refine d_new B H fun va s5 H => ?_
  refine nmL (by assumption) (by walk_at "m_take") (by walk_at "m_mem") ?_
  obtain ⟨_, e3, rfl⟩ := H.get (x := iR x 163 dx) (by walk_at "m_take")
  refine setA (mro := [.ref 163, .type "object"]) (name := "_variables") B H e3 rfl rfl rfl (es := putL (Str.ofString "_constraints") h2 (.str (Str.ofString "_constraints") t2) (.ref cl) (putL (Str.ofString "_solver") h1 (.str (Str.ofString "_solver") t1) (.ref sv) [])) (by walk_at "m_take") (by kernel_rfl) (fun _ _ => putL_le (n := 999) (putL_le (n := 998) (putL_le (n := 997) (Nat.zero_le _)))) fun h3 t3 s3 H => ?_
  show W _ _ _ _ _
  refine wpAny_execs_nil ?_
  have H := H.imp (r' := prR dx sv cl va) (fun _ f => f) (fun ⟨o, e, n, eo⟩ => ⟨o, e, h1, h2, h3, t1, t2, t3, n, eo⟩)
  exact ⟨rfl, q x dx cl va _ (H.sub (by walk_at "m_sub"))⟩
end
end
section
section
variable {w : World} {g : Heap} {z : Shared} {A : Around} {s : Shared} {M M' R : List Res} {env : Env} {kvs : List (Int × Value)} {ep : Nat} {a : Addr}
/-- list() of a dict -/
theorem list_dict {Q : Value → Shared → Prop} (hh : A.handled = none) (H : Hs g z M s) (tk : Take (dR w a kvs ep) M M') (hsz : kvs.length ≤ 1000)
    (q : ∀ (b : Addr) (vs : List Value) s', vs.length = kvs.length → (∀ (j : Nat) (v : Value), vs[j]? = some v → ∃ k x t, kvs[j]? = some (k, x) ∧ v = Value.int k t) → Hs g z (lR b vs :: M) s' → Q (.ref b) s') : W w A (call (.type "list") [.ref a]) Q s := by
  obtain ⟨hd, hs⟩ := dR_at H tk
  have hsl : sizeLine = 2 ^ 24 := rfl
  refine kdl_call (kdl_dict (knd := IK w) (kvs := kvs) (ep := ep) hs) hh hd (by omega) fun h' tk' acc' c' hk hS hacc => ?_
  refine q _ acc'.toList _ (by rw [Array.length_toList]; exact hacc.1) (fun j v e => ?_) (H.new ⟨h', tk', rfl, hk⟩ (fun b f => f ▸ fresh_size s) ⟨_, hS, c', by simp⟩)
  obtain ⟨k, x, hx, hv⟩ := hacc.2 j v (by rw [← Array.getElem?_toList]; exact e)
  obtain ⟨t, rfl⟩ := Value.isInt_shape hv
  exact ⟨k, x, t, hx, rfl⟩
theorem list_list {b : Addr} {vs : List Value} {Q : Value → Shared → Prop} (H : Hs g z M s) (tk : Take (lR b vs) M M') (hsz : vs.length ≤ 1000) (q : ∀ a s', Hs g z (lR a vs :: M) s' → Q (.ref a) s') : W w A (call (.type "list") [.ref b]) Q s := by
  obtain ⟨n, e⟩ := qR_at H tk
  have hsl : sizeLine = 2 ^ 24 := rfl
  refine call_list_seq b (.inl rfl) e rfl rfl (fun h' c' hk hS => ?_) (by simp; omega)
  exact q _ _ (H.new ⟨h', s.toks, rfl, hk⟩ (fun b f => f ▸ fresh_size s) ⟨_, hS, c', rfl⟩)
def viR (I d : Addr) (n ep i : Nat) : Res := cR I fun o => o.cls = .type "dict_valueiterator" ∧ o.data = .fields #[.ref d, .int i 0, .int n 0, .int ep 0]
def vwR (v d : Addr) : Res := cR v fun o => o.cls = .type "dict_values" ∧ o.data = .fields #[.ref d]
theorem iter_vals (hh : A.handled = none) (I : Addr) : Iter w A (.ref I) kvs.length (fun i v => ∃ k, kvs[i]? = some (k, v)) (viR I a kvs.length ep) (fun h => h.DictAt (IK w) a kvs ep) where
  next := by
    rintro g z i M s Q hi hN H q
    obtain ⟨o, ho, hc, hd⟩ := H.get Take.head
    have hv : kvs[i]? = some (kvs[i].1, kvs[i].2) := List.getElem?_eq_getElem hi
    refine wpAny_pyNext_values_item ⟨o, ho, hc, hd⟩ hN hv fun h' hit hs => ?_
    obtain ⟨o', ho', hc', hd'⟩ := hit
    exact q _ _ ⟨_, hv⟩ (H.put (r := viR I a kvs.length ep (i + 1)) (fun b f => f) (fun b o nf e => (hs.2 b nf).trans e) ⟨o', ho', hc', hd'⟩)
  done := by
    rintro g z M s Q hN H q
    obtain ⟨o, ho, hc, hd⟩ := H.get Take.head
    exact wpAny_pyNext_values_end hh ⟨o, ho, hc, hd⟩ hN (by simp) fun h' hs => q _ (H.lose fun b o nf e => hs b o nf e)
  self := by
    rintro g z i M s Q H q
    obtain ⟨o, ho, hc, hd⟩ := H.get Take.head
    exact wpAny_pyIter_valiter ⟨o, ho, hc, hd⟩ q
  go := by
    rintro g z i M s t v Q hv H q
    obtain ⟨o, ho, hc, hd⟩ := H.get Take.head
    have f0 : (["enumerate", "zip", "dict_itemiterator", "dict_reverseitemiterator", "odict_iterator", "itertools.zip_longest", "itertools.pairwise"].contains "dict_valueiterator") = false := by decide
    unfold letOwnedTupleGo
    split
    · cases v with
      | ref a =>
        refine wpAny_bind (wpAny_load ho ?_)
        rw [hc, hd]
        dsimp only
        rw [f0, Bool.false_and, if_neg (by decide)]
        exact wpAny_pure (q _ H)
      | _ => exact wpAny_pure (q _ H)
    · cases v with
      | ref a =>
        refine wpAny_bind (wpAny_load ho ?_)
        rw [hc, hd]
        dsimp only
        rw [f0, Bool.false_and, if_neg (by decide)]
        exact wpAny_pure (q _ H)
      | _ => exact wpAny_pure (q _ H)
    · exact wpAny_pure (q _ H)
theorem d_values {pos : Pos} {Q : Value → Shared → Prop} (H : Hs g z M s) (tk : Take (dR w a kvs ep) M M') (q : ∀ v s', Hs g z (vwR v a :: M) s' → Q (.ref v) s') : W w A (callWith pos (.builtin "dict.values") [.ref a] [] []) Q s := by
  obtain ⟨hd, hs⟩ := dR_at H tk
  refine Calls.callWith_builtin rfl (PyProof.Rows.evalArgs_none ?_)
  refine call_meetsIn PySem.F.slot_dict_values hd.dictOf.typeIs PySem.F.entry_dict_values (PySem.F.args_dict_values_1 _) (meets_dict_values (IK w) a hs) ⟨⟨kvs, hd.dictOf⟩, ?_⟩
  exact q _ _ (new_obj H ⟨rfl, rfl⟩ rfl s.toks)
theorem vw_iter {v : Addr} {Q : Value → Shared → Prop} (H : Hs g z M s) (t1 : Take (vwR v a) M R) (tk : Take (dR w a kvs ep) M M') (q : ∀ I s', Hs g z (viR I a kvs.length ep 0 :: M) s' → Q (.ref I) s') : W w A (pyIter (.ref v)) Q s := by
  obtain ⟨hd, hs⟩ := dR_at H tk
  exact wpAny_pyIter_values (H.get t1) hd (q _ _ (new_obj H ⟨rfl, rfl⟩ rfl s.toks))
end
end
section
section
variable {w : World} {g : Heap} {z : Shared} {A : Around} {s : Shared} {M M' R : List Res} {env : Env} {kvs : List (Int × Value)} {ep : Nat} {a : Addr}
theorem pr_sv {pa pd sv cl va : Addr} {b : Bool} {Q : Value → Shared → Prop} (B : Base w g) (H : Hs g z M s) (t : Take (iR pa 163 pd) M M') (t2 : Take (prR pd sv cl va) M R) (q : Hs g z M { s with toks := s.toks + 1 } → Q (.ref sv) { s with toks := s.toks + 1 }) :
    W w A (getAttr (.ref pa) "_solver" b) Q s := by
  obtain ⟨_, e, h1, h2, h3, t1, t2, t3, n, rfl⟩ := H.get t2
  exact ga (v := .ref sv) (B.x H) (i_at H t) rfl rfl rfl e (by kernel_rfl) rfl (q (H.tok _))
theorem pr_cl {pa pd sv cl va : Addr} {b : Bool} {Q : Value → Shared → Prop} (B : Base w g) (H : Hs g z M s) (t : Take (iR pa 163 pd) M M') (t2 : Take (prR pd sv cl va) M R) (q : Hs g z M { s with toks := s.toks + 1 } → Q (.ref cl) { s with toks := s.toks + 1 }) :
    W w A (getAttr (.ref pa) "_constraints" b) Q s := by
  obtain ⟨_, e, h1, h2, h3, t1, t2, t3, n, rfl⟩ := H.get t2
  exact ga (v := .ref cl) (B.x H) (i_at H t) rfl rfl rfl e (by kernel_rfl) rfl (q (H.tok _))
theorem pr_va {pa pd sv cl va : Addr} {b : Bool} {Q : Value → Shared → Prop} (B : Base w g) (H : Hs g z M s) (t : Take (iR pa 163 pd) M M') (t2 : Take (prR pd sv cl va) M R) (q : Hs g z M { s with toks := s.toks + 1 } → Q (.ref va) { s with toks := s.toks + 1 }) :
    W w A (getAttr (.ref pa) "_variables" b) Q s := by
  obtain ⟨_, e, h1, h2, h3, t1, t2, t3, n, rfl⟩ := H.get t2
  exact ga (v := .ref va) (B.x H) (i_at H t) rfl rfl rfl e (by kernel_rfl) rfl (q (H.tok _))
theorem pr_meth {pa pd sv cl va f : Addr} {name : Str} {pl : Sem Bool} {Q : Value × List Value → Shared → Prop} (B : Base w g) (H : Hs g z M s) (t : Take (iR pa 163 pd) M M') (t2 : Take (prR pd sv cl va) M R)
    (hn : ∀ h1 h2 h3 t1 t2 t3 v1 v2 v3, getL name [⟨h1, .str "_solver" t1, v1⟩, ⟨h2, .str "_constraints" t2, v2⟩, ⟨h3, .str "_variables" t3, v3⟩] = some none)
    (q : Q (.ref f, [.ref pa]) s) (ok : methOk w 163 name f = true := by kernel_rfl) : W w A (getMethod (.ref pa) name pl) Q s := by
  obtain ⟨_, e, h1, h2, h3, t1, t2, t3, n, rfl⟩ := H.get t2
  exact gm (B.x H) (i_at H t) rfl rfl rfl e (hn ..) q ok
theorem fn_addv {n : Nat} {pa pd sv cl va b : Addr} {vs : List Value} {k : Int} {tk : Tok} {Q : Value → Shared → Prop} (hA : Ok (n + 10) A) (B : Base w g) (H : Hs g z M s) (pk : Pick M [iR pa 163 pd, prR pd sv cl va, dR w va kvs ep, lR b vs] R)
    (hne : vs ≠ []) (hvl : vs.length ≤ 1000) (hkl : kvs.length ≤ 1000) (hk : valueAt kvs k = none)
    (q : ∀ d dd hl sl ep' s', Hs g z (domR d dd hl sl vs [] [] :: dR w va (kvs ++ [(k, .ref d)]) ep' :: iR pa 163 pd :: prR pd sv cl va :: R) s' → Q .none s') : W w A (call (.ref 117) [.ref pa, .int k tk, .ref b]) Q s := by
  have hsl : sizeLine = 2 ^ 24 := rfl
  have H : Hs g z (iR pa 163 pd :: prR pd sv cl va :: dR w va kvs ep :: lR b vs :: R) s := H.pick pk
  have hb : BindsTo s (fdOf w 117) ⟨[.ref pa, .int k tk, .ref b], []⟩ [("self", .ref pa), ("variable", .int k tk), ("domain", .ref b)] := BindsTo.of_eq (by kernel_rfl)
  refine call_fn (k := n + 9) (l := [("self", some (.ref pa)), ("variable", some (.int k tk)), ("domain", some (.ref b)), ("msg", none)]) hA B H hb ?_
  intro L s' H hA'
  with_unfolding_all refine wpAny_execs_cons ?_
  refine wpAny_If (wpAny_isTrue_Compare1 ?_)
  refine nmL (by assumption) (by walk_at "m_take") (by walk_at "m_mem") ?_
  refine eAttr ?_
  refine nmL (by assumption) (by walk_at "m_take") (by walk_at "m_mem") ?_
  refine pr_va B H (by walk_at "m_take") (by walk_at "m_take") fun H => ?_
  refine d_in H (by walk_at "m_take") fun s2 H => ?_
  refine wpAny_truthy_bool ?_
  rw [hk, Option.isSome_none, if_neg (by decide)]
  refine wpAny_execs_nil ?_
  show W _ _ _ _ _
  refine wpAny_execs_cons ?_
  refine wpAny_If (isTrue_plain ?_)
  refine PyProof.Rows.Call_Name2 ?_
  refine nmB (v := .builtin "isinstance") B H ?_
  refine Calls.callWith_builtin rfl (Calls.evalArgs_plain (Calls.spliced_cons ?_))
  refine nmL (by assumption) (by walk_at "m_take") (by walk_at "m_mem") ?_
  refine Calls.spliced_cons ?_
  refine tuple_ (k := 0) ?_
  refine wpAny_items_cons ?_
  refine nmB (v := .type "list") B H ?_
  refine wpAny_items_cons ?_
  refine nmB (v := .type "tuple") B H ?_
  refine wpAny_items_nil ?_
  refine ⟨g, z, _, H, by simp; omega, fun tp s3 H => ?_⟩
  refine Calls.spliced_nil ?_
  obtain ⟨n1, e1⟩ := qR_at (a := b) H (by walk_at "m_take")
  obtain ⟨_, e2, n2, rfl⟩ := H.get (x := tR tp [.type "list", .type "tuple"]) (by walk_at "m_take")
  refine kia_tup (K := Kf w) (b := true) kitx_list (B.x H) ⟨_, e1, rfl⟩ e2 (by kernel_rfl) (fun h => nomatch h) fun n3 => ?_
  have H := H.tok n3
  refine wpAny_truthy_bool ?_
  rw [if_pos rfl]
  refine wpAny_execs_cons ?_
  refine wpAny_Assign_Name ?_ (by kernel_rfl)
  refine Call_Name1 ?_
  refine nmG (v := .ref 356) B H ?_
  refine cwK rfl (evalArgs1 ?_)
  refine nmL (by assumption) (by walk_at "m_take") (by walk_at "m_mem") ?_
  refine ⟨rfl, B.x H, ?_⟩
  refine mk_dom (k := n) (b := b) (vs := vs) (hA'.le (by omega)) B H (by walk_at "m_take") hvl fun d dd hl sl s4 H => ?_
  refine stL (L := L) H (by walk_at "m_take") (by walk_at "m_upl") fun s5 H => ?_
  show W _ _ _ _ _
  refine wpAny_execs_nil ?_
  show W _ _ _ _ _
  refine wpAny_execs_cons ?_
  refine wpAny_If (isTrue_not (isTrue_plain ?_))
  refine nmL (by assumption) (by walk_at "m_take") (by walk_at "m_mem") ?_
  have H := dom_open H (by walk_at "m_take")
  obtain ⟨n6, e6⟩ := qR_at (a := d) H (by walk_at "m_take")
  refine own_truthy (B.x H) e6 (by omega) ?_
  have H := H.tok (s5.toks + 1 + 1)
  rw [if_neg (by cases vs with | nil => exact absurd rfl hne | cons x r => simp)]
  refine wpAny_execs_nil ?_
  show W _ _ _ _ _
  refine wpAny_execs_cons ?_
  refine wpAny_Assign_Subscript ?_ (by kernel_rfl)
  refine nmL (by assumption) (by walk_at "m_take") (by walk_at "m_mem") ?_
  refine eAttr ?_
  refine nmL (by assumption) (by walk_at "m_take") (by walk_at "m_mem") ?_
  refine pr_va B H (by walk_at "m_take") (by walk_at "m_take") fun H => ?_
  refine nmL (by assumption) (by walk_at "m_take") (by walk_at "m_mem") ?_
  refine d_set H (by walk_at "m_take") (by omega) fun ep2 s7 H => ?_
  rw [stored_new hk] at H
  show W _ _ _ _ _
  refine wpAny_execs_nil ?_
  have H := dom_shut (H.sub (xs := qR d (.ref 356) (some dd) vs :: ddR dd hl sl :: lR hl [] :: lR sl [] :: dR w va (kvs ++ [(k, .ref d)]) ep2 :: iR pa 163 pd :: prR pd sv cl va :: R) (by walk_at "m_sub"))
  exact q d dd hl sl ep2 s7 H
theorem fn_addc {n : Nat} {pa pd sv cl va c cd nA : Addr} {S : Value} {cs : List Value} {Q : Value → Shared → Prop} (hA : Ok (n + 10) A) (B : Base w g) (H : Hs g z M s) (pk : Pick M [iR pa 163 pd, prR pd sv cl va, lR cl cs, iR c 463 cd, csR cd S] R)
    (hcl : cs.length ≤ 1000)
    (q : ∀ t s', Hs g z (lR cl (cs ++ [.ref t]) :: tR t [.ref c, .ref nA] :: iR c 463 cd :: csR cd S :: iR pa 163 pd :: prR pd sv cl va :: R) s' → Q .none s') : W w A (call (.ref 132) [.ref pa, .ref c, .ref nA]) Q s := by
  have hsl : sizeLine = 2 ^ 24 := rfl
  have H : Hs g z (iR pa 163 pd :: prR pd sv cl va :: lR cl cs :: iR c 463 cd :: csR cd S :: R) s := H.pick pk
  have hb : BindsTo s (fdOf w 132) ⟨[.ref pa, .ref c, .ref nA], []⟩ [("self", .ref pa), ("constraint", .ref c), ("variables", .ref nA)] := bind_d (T := 125) (B.x H)
  refine call_fn (k := n + 9) (l := [("self", some (.ref pa)), ("constraint", some (.ref c)), ("variables", some (.ref nA)), ("msg", none)]) hA B H hb ?_
  intro L s' H hA'
  with_unfolding_all refine wpAny_execs_cons ?_
  refine wpAny_If (isTrue_not (isTrue_plain ?_))
  refine PyProof.Rows.Call_Name2 ?_
  refine nmB (v := .builtin "isinstance") B H ?_
  refine Calls.callWith_builtin rfl (Calls.evalArgs_plain (Calls.spliced_cons ?_))
  refine nmL (by assumption) (by walk_at "m_take") (by walk_at "m_mem") ?_
  refine Calls.spliced_cons ?_
  refine nmG (v := .ref 400) B H ?_
  refine Calls.spliced_nil ?_
  obtain ⟨oc, ec, hc⟩ := H.get (x := csR cd S) (by walk_at "m_take")
  have I : InstAt s'.heap c (instObj 463 cd) 463 (some oc) := ⟨i_at H (by walk_at "m_take"), rfl, rfl, ec⟩
  refine isi_call (K := Kf w) (t := .ref 463) (B.x H) (fun M => I.type) (by kernel_rfl) (fun h => nomatch h) ?_
  refine wpAny_truthy_bool ?_
  rw [if_neg (by decide)]
  refine wpAny_execs_nil ?_
  show W _ _ _ _ _
  refine wpAny_execs_cons ?_
  refine wpAny_Expr ?_ (by kernel_rfl) (by kernel_rfl)
  refine callM ?_
  refine eAttr ?_
  refine nmL (by assumption) (by walk_at "m_take") (by walk_at "m_mem") ?_
  refine pr_cl B H (by walk_at "m_take") (by walk_at "m_take") fun H => ?_
  refine lst_meth H (by walk_at "m_take") slot_list_append PySem.F.type_list_append ?_
  refine app_ ?_
  refine tuple_ (k := 0) ?_
  refine wpAny_items_cons ?_
  refine nmL (by assumption) (by walk_at "m_take") (by walk_at "m_mem") ?_
  refine wpAny_items_cons ?_
  refine nmL (by assumption) (by walk_at "m_take") (by walk_at "m_mem") ?_
  refine wpAny_items_nil ?_
  refine ⟨g, z, _, H, by simp; omega, fun ta s8 H => ?_⟩
  refine ⟨g, z, _, _, cs, H, (by walk_at "m_take"), by omega, fun s9 H => ?_⟩
  show W _ _ _ _ _
  refine wpAny_execs_nil ?_
  exact q ta s9 (H.sub (by walk_at "m_sub"))
end
end
section
section
variable {w : World} {g : Heap} {z : Shared} {A : Around} {s : Shared} {M M' R : List Res} {env : Env} {kvs : List (Int × Value)} {ep : Nat} {a : Addr}
theorem fn_prec {n : Nat} {c nA DA : Addr} {ca va : Value} {nm : List Value} {Q : Value → Shared → Prop} (hA : Ok (n + 3) A) (B : Base w g) (H : Hs g z M s) (t : Take (lR nA nm) M M') (hl2 : 2 ≤ nm.length) (hl4 : nm.length ≤ 1000)
    (q : ∀ s', Hs g z M s' → Q .none s') : W w A (call (.ref 389) [.ref c, .ref nA, .ref DA, ca, va]) Q s := by
  have hsl : sizeLine = 2 ^ 24 := rfl
  have hb : BindsTo s (fdOf w 389) ⟨[.ref c, .ref nA, .ref DA, ca, va], []⟩ [("self", .ref c), ("variables", .ref nA), ("domains", .ref DA), ("constraints", ca), ("vconstraints", va)] := BindsTo.of_eq (by kernel_rfl)
  refine call_fn (k := n + 2) (l := [("self", some (.ref c)), ("variables", some (.ref nA)), ("domains", some (.ref DA)), ("constraints", some ca), ("vconstraints", some va), ("variable", none), ("domain", none), ("value", none)]) hA B H hb ?_
  intro L s' H hA'
  with_unfolding_all refine wpAny_execs_cons ?_
  refine wpAny_If (wpAny_isTrue_Compare1 ?_)
  refine Call_Name1 ?_
  refine nmB (v := .builtin "len") B H ?_
  refine cw1 ?_
  refine nmL (by assumption) (by walk_at "m_take") (by walk_at "m_mem") ?_
  obtain ⟨n4, e4⟩ := qR_at (a := nA) H (Take.tail t)
  refine len_list H e4 (by omega) fun t4 s4 H => ?_
  refine con_ H fun t5 s5 H => ?_
  refine PySem.P.eq_int (wpAny_truthy_bool ?_)
  rw [if_neg (by simp; omega)]
  refine wpAny_execs_nil ?_
  show W _ _ _ _ _
  refine wpAny_execs_nil ?_
  exact q s5 H.drop
theorem fn_pre {n : Nat} {c cd nA DA : Addr} {ca va : Value} {nm : List Value} {ns : List Int} {dk : List (Int × Value)} {dep : Nat} {S : Int} {ts : Tok} {df : Int → DA4} {st : Int → DS} {Q : Value → Shared → Prop} (hA : Ok (n + 6) A) (B : Base w g) (H : Hs g z M s)
    (pk : Pick M [iR c 463 cd, csR cd (.int S ts), lR nA nm, dR w DA dk dep, famR df st ns] R) (hn : IntsAre nm ns) (hnd : ns.Nodup) (hl2 : 2 ≤ ns.length) (hl : ns.length ≤ 100)
    (hdk : ∀ k ∈ ns, valueAt dk k = some (.ref (df k).d)) (hok : ∀ k ∈ ns, OkD (st k)) (hle : ∀ k ∈ ns, ∀ x ∈ (st k).xs, intOf x ≤ S)
    (q : ∀ s', Hs g z (iR c 463 cd :: csR cd (.int S ts) :: lR nA nm :: dR w DA dk dep :: famR df st ns :: R) s' → Q .none s') : W w A (call (.ref 452) [.ref c, .ref nA, .ref DA, ca, va]) Q s := by
  have hsl : sizeLine = 2 ^ 24 := rfl
  have hlen : nm.length = ns.length := nm_len hn
  have H : Hs g z (iR c 463 cd :: csR cd (.int S ts) :: lR nA nm :: dR w DA dk dep :: famR df st ns :: R) s := H.pick pk
  have hb : BindsTo s (fdOf w 452) ⟨[.ref c, .ref nA, .ref DA, ca, va], []⟩ [("self", .ref c), ("variables", .ref nA), ("domains", .ref DA), ("constraints", ca), ("vconstraints", va)] := BindsTo.of_eq (by kernel_rfl)
  refine call_fn (k := n + 5) (l := [("self", some (.ref c)), ("variables", some (.ref nA)), ("domains", some (.ref DA)), ("constraints", some ca), ("vconstraints", some va), ("multipliers", none), ("exactsum", none), ("variable", none), ("multiplier", none), ("domain", none), ("value", none)]) hA B H hb ?_
  intro L s' H hA'
  with_unfolding_all refine wpAny_execs_cons ?_
  refine wpAny_Expr ?_ (by kernel_rfl) (by kernel_rfl)
  refine callM ?_
  refine nmG (v := .ref 400) B H ?_
  refine method_cls (K := Kf w) (B.x H) (by kernel_rfl) (cls_value (K := Kf w) (mc := .type "type") (v := .ref 389) (B.x H) (by kernel_rfl) (by kernel_rfl) rfl ?_)
  have H := H.tok (s'.toks + 1)
  refine cwF ?_
  refine evalArgs_plain (spliced_cons ?_)
  refine nmL (by assumption) (by walk_at "m_take") (by walk_at "m_mem") ?_
  refine spliced_cons ?_
  refine nmL (by assumption) (by walk_at "m_take") (by walk_at "m_mem") ?_
  refine spliced_cons ?_
  refine nmL (by assumption) (by walk_at "m_take") (by walk_at "m_mem") ?_
  refine spliced_cons ?_
  refine nmL (by assumption) (by walk_at "m_take") (by walk_at "m_mem") ?_
  refine spliced_cons ?_
  refine nmL (by assumption) (by walk_at "m_take") (by walk_at "m_mem") ?_
  refine spliced_nil ?_
  refine ⟨rfl, B.x H, ?_⟩
  refine fn_prec (n := n) (nm := nm) (hA'.le (by omega)) B H (by walk_at "m_take") (by omega) (by omega) fun s1 H => ?_
  show W _ _ _ _ _
  refine wpAny_execs_cons ?_
  refine wpAny_Assign_Name ?_ (by kernel_rfl)
  refine eAttr ?_
  refine nmL (by assumption) (by walk_at "m_take") (by walk_at "m_mem") ?_
  obtain ⟨_, e2, a1, a2, t1, t2, n2, rfl⟩ := H.get (x := csR cd (.int S ts)) (by walk_at "m_take")
  refine ga (v := .none) (B.x H) (i_at H (x := c) (by walk_at "m_take")) rfl rfl rfl e2 (by kernel_rfl) rfl ?_
  have H := H.tok (s1.toks + 1)
  refine stL (L := L) H (by walk_at "m_take") (by walk_at "m_upl") fun s2 H => ?_
  show W _ _ _ _ _
  refine wpAny_execs_cons ?_
  refine wpAny_Assign_Name ?_ (by kernel_rfl)
  refine eAttr ?_
  refine nmL (by assumption) (by walk_at "m_take") (by walk_at "m_mem") ?_
  obtain ⟨_, e3, a1, a2, t1, t2, n2, rfl⟩ := H.get (x := csR cd (.int S ts)) (by walk_at "m_take")
  refine ga (v := .int S ts) (B.x H) (i_at H (x := c) (by walk_at "m_take")) rfl rfl rfl e3 (by kernel_rfl) rfl ?_
  have H := H.tok (s2.toks + 1)
  refine stL (L := L) H (by walk_at "m_take") (by walk_at "m_upl") fun s3 H => ?_
  show W _ _ _ _ _
  refine wpAny_execs_cons ?_
  refine wpAny_If (isTrue_plain ?_)
  refine nmL (by assumption) (by walk_at "m_take") (by walk_at "m_mem") ?_
  refine truthy_none ?_
  rw [if_neg (by decide)]
  refine wpAny_execs_cons ?_
  refine for_ ?_
  refine nmL (by assumption) (by walk_at "m_take") (by walk_at "m_mem") ?_
  refine l_iter H (by walk_at "m_take") fun I s6 H => ?_
  refine ⟨g, z, nm.length, _, _, _, fun i M => ∃ ov od ovv, M = frR L (cellsOf w 452 L) [("self", some (.ref c)), ("variables", some (.ref nA)), ("domains", some (.ref DA)), ("constraints", some ca), ("vconstraints", some va), ("multipliers", some .none), ("exactsum", some (.int S ts)), ("variable", ov), ("multiplier", none), ("domain", od), ("value", ovv)] ::
    iR c 463 cd :: csR cd (.int S ts) :: lR nA nm :: dR w DA dk dep :: famR df st ns :: R, _, iter_list hA'.hd I nA nm, ⟨none, none, none, rfl⟩, H.sub (by walk_at "m_sub"), ?_, ?_, ?_⟩
  · rintro i M s ⟨ov, od, ovv, rfl⟩ H; exact has_seq (a := nA) H (by walk_at "m_take")
  · rintro i M v s hi ⟨ov, od, ovv, rfl⟩ hv H
    obtain ⟨k, tk, hk, rfl⟩ := nm_get hn hv
    have hkn : k ∈ ns := List.mem_of_getElem? hk
    have hxl := (hok k hkn).len
    refine wpAny_assign_Name ?_
    refine stL (L := L) H (by walk_at "m_take") (by walk_at "m_upl") fun s7 H => ?_
    refine wpAny_execs_cons ?_
    refine wpAny_Assign_Name ?_ (by kernel_rfl)
    refine sub_dict ?_
    refine nmL (by assumption) (by walk_at "m_take") (by walk_at "m_mem") ?_
    refine nmL (by assumption) (by walk_at "m_take") (by walk_at "m_mem") ?_
    refine ⟨g, z, _, _, DA, dk, dep, k, tk, _, rfl, rfl, H, (by walk_at "m_take"), hdk k hkn, fun s8 H => ?_⟩
    refine stL (L := L) H (by walk_at "m_take") (by walk_at "m_upl") fun s9 H => ?_
    show W _ _ _ _ _
    refine wpAny_execs_cons ?_
    refine for_ ?_
    refine fam_slice (k := k) (df := df) (st := st) (ns := ns) B hnd hkn (by omega) ?_
    refine nmL (by assumption) (by walk_at "m_take") (by walk_at "m_mem") ?_
    refine ⟨z, _, _, H, (by walk_at "m_take"), rfl, fun b s10 H => ?_⟩
    refine l_iter H (by walk_at "m_take") fun I2 s11 H => ?_
    refine ⟨g, z, (st k).xs.length, _, _, _, fun j M => ∃ ovv, M = frR L (cellsOf w 452 L) [("self", some (.ref c)), ("variables", some (.ref nA)), ("domains", some (.ref DA)), ("constraints", some ca), ("vconstraints", some va), ("multipliers", some .none), ("exactsum", some (.int S ts)), ("variable", some (.int k tk)), ("multiplier", none), ("domain", some (.ref (df k).d)), ("value", ovv)] ::
      lR b (st k).xs :: liR I nA (i + 1) :: iR c 463 cd :: csR cd (.int S ts) :: lR nA nm :: dR w DA dk dep :: famR df st ns :: R, _, iter_list hA'.hd I2 b _, ⟨ovv, rfl⟩, H.sub (by walk_at "m_sub"), ?_, ?_, ?_⟩
    · rintro j M s ⟨ovv, rfl⟩ H; exact has_seq (a := b) H (by walk_at "m_take")
    · rintro j M v s hj ⟨ovv, rfl⟩ hv H
      have hvm := List.mem_of_getElem? hv
      obtain ⟨x, tx, rfl⟩ := isInt_ex ((hok k hkn).int v hvm)
      have hxS : x ≤ S := hle k hkn _ hvm
      refine wpAny_assign_Name ?_
      refine stL (L := L) H (by walk_at "m_take") (by walk_at "m_upl") fun s12 H => ?_
      refine wpAny_execs_cons ?_
      refine wpAny_If (wpAny_isTrue_Compare1 ?_)
      refine nmL (by assumption) (by walk_at "m_take") (by walk_at "m_mem") ?_
      refine nmL (by assumption) (by walk_at "m_take") (by walk_at "m_mem") ?_
      refine PySem.P.gt_int (wpAny_truthy_bool ?_)
      rw [if_neg (by simp; omega)]
      refine wpAny_execs_nil ?_
      show W _ _ _ _ _
      refine wpAny_execs_nil ?_
      exact ⟨_, ⟨_, rfl⟩, H.sub (by walk_at "m_sub")⟩
    · rintro M s ⟨ovv, rfl⟩ H
      refine wpAny_execs_nil ?_
      show W _ _ _ _ _
      refine wpAny_execs_nil ?_
      exact ⟨_, ⟨some (.int k tk), some (.ref (df k).d), ovv, rfl⟩, H.sub (by walk_at "m_sub")⟩
  · rintro M s ⟨ov, od, ovv, rfl⟩ H
    refine wpAny_execs_nil ?_
    show W _ _ _ _ _
    refine wpAny_execs_nil ?_
    show W _ _ _ _ _
    refine wpAny_execs_nil ?_
    exact q s (H.sub (by walk_at "m_sub"))
end
end
section
section
variable {w : World} {g : Heap} {z : Shared} {A : Around} {s : Shared} {M M' R : List Res} {env : Env}
def famG (f : Int → Res) (ns : List Int) : Res := sR (ns.map f)
theorem famG_out {f : Int → Res} {ns : List Int} {k : Int} (hk : k ∈ ns) (H : Hs g z (famG f ns :: M) s) : ∃ pre post, ns = pre ++ k :: post ∧ Hs g z (f k :: famG f (pre ++ post) :: M) s := by
  obtain ⟨pre, post, rfl⟩ := List.append_of_mem hk
  refine ⟨pre, post, rfl, ?_⟩
  have H1 := Hs.open_ H
  rw [List.map_append, List.map_cons, List.append_assoc] at H1
  have H2 : Hs g z (f k :: ((pre ++ post).map f ++ M)) s := H1.perm (by
    rw [List.map_append, List.append_assoc, List.cons_append]
    exact (List.perm_middle).symm)
  exact (Hs.shut (l := (pre ++ post).map f) (M := f k :: M) (H2.perm List.perm_middle)).perm (List.Perm.swap _ _ _)
theorem famG_in {f : Int → Res} {r : Res} {pre post : List Int} {k : Int} (hn : (pre ++ k :: post).Nodup) (H : Hs g z (r :: famG f (pre ++ post) :: M) s) : Hs g z (famG (fun j => if j = k then r else f j) (pre ++ k :: post) :: M) s := by
  have H1 := Hs.open_ (H.perm (List.Perm.swap _ _ _))
  have hne : ∀ j ∈ pre ++ post, j ≠ k := by
    intro j hj e
    subst e
    have := List.nodup_append.mp hn
    rcases List.mem_append.mp hj with h | h
    · exact this.2.2 j h j List.mem_cons_self rfl
    · exact (List.nodup_cons.mp this.2.1).1 h
  refine Hs.shut (l := (pre ++ k :: post).map _) (H1.perm ?_)
  rw [List.map_append, List.map_cons, List.append_assoc, if_pos rfl, List.cons_append]
  have e : ∀ l : List Int, (∀ j ∈ l, j ≠ k) → l.map (fun j => if j = k then r else f j) = l.map f := fun l hl => List.map_congr_left fun j hj => by rw [if_neg (hl j hj)]
  rw [e pre fun j hj => hne j (List.mem_append_left _ hj), e post fun j hj => hne j (List.mem_append_right _ hj)]
  rw [List.map_append, List.append_assoc]
  exact List.Perm.append_left _ List.perm_middle.symm
theorem famG_eq {f f' : Int → Res} {ns : List Int} (h : ∀ k ∈ ns, f k = f' k) : famG f ns = famG f' ns := by
  unfold famG; congr 1; exact List.map_congr_left h
theorem famG_snoc {f : Int → Res} {ns : List Int} {k : Int} {r : Res} (hk : k ∉ ns) (H : Hs g z M s) (pk : Pick M [r, famG f ns] R) : Hs g z (famG (fun j => if j = k then r else f j) (ns ++ [k]) :: R) s := by
  have H : Hs g z (r :: famG f ns :: R) s := H.pick pk
  have H1 := Hs.open_ (H.perm (List.Perm.swap _ _ _))
  refine Hs.shut (l := (ns ++ [k]).map _) (H1.perm ?_)
  rw [List.map_append, List.map_cons, List.map_nil, if_pos rfl, List.append_assoc]
  rw [show ns.map (fun j => if j = k then r else f j) = ns.map f from List.map_congr_left fun j hj => by rw [if_neg (fun e : j = k => hk (e ▸ hj))]]
  exact List.Perm.refl _
theorem va_take {f : Int → Value} {ns : List Int} {k : Int} (h : k ∉ ns) : valueAt (ns.map fun k => (k, f k)) k = none := by
  rw [va_none]
  intro q hq
  obtain ⟨j, hj, rfl⟩ := List.mem_map.mp hq
  exact fun e => h (e ▸ hj)
theorem fam_reset {n : Nat} {k : Int} {df : Int → DA4} {st : Int → DS} {ns : List Int} {Q : Value → Shared → Prop} (hA : Ok (n + 5) A) (B : Base w g) (H : Hs g z M s) (t0 : Take (famR df st ns) M M') (hn : ns.Nodup) (hk : k ∈ ns) (h1 : (st k).xs.length ≤ 1000) (h2 : (st k).hs = []) (h3 : (st k).ss = [])
    (q : ∀ s', Hs g z (famR df st ns :: M') s' → Q .none s') : W w A (call (.ref 332) [.ref (df k).d]) Q s := by
  obtain ⟨pre, post, e, H1⟩ := fam_out hk (H.take t0)
  have H1 : Hs g z (domR (df k).d (df k).dd (df k).hl (df k).sl (st k).xs (st k).hs (st k).ss :: _) s := H1
  refine fn_reset (hA.le (by omega)) B H1 Take.head (by rw [h2]; simpa using h1) (by rw [h3]; simp) fun s' H2 => q s' ?_
  have e4 : (⟨(st k).xs ++ (st k).hs, [], []⟩ : DS) = st k := by
    rw [h2, List.append_nil]
    cases e5 : st k with
    | mk xs hs ss => rw [e5] at h2 h3; simp only at h2 h3; rw [h2, h3]
  have H3 : Hs g z (famR df (upd st k ⟨(st k).xs ++ (st k).hs, [], []⟩) (pre ++ k :: post) :: M') s' := fam_in (by rw [← e]; exact hn) H2
  rw [← e, e4, show upd st k (st k) = st from funext fun j => by unfold upd; split <;> simp_all] at H3
  exact H3
theorem fn_args {n : Nat} {pa pd sv cl va c cd nA t0 : Addr} {nm : List Value} {ns : List Int} {S : Int} {ts : Tok} {df : Int → DA4} {st : Int → DS} {dep : Nat} {Q : Value → Shared → Prop} (hA : Ok (n + 20) A) (B : Base w g) (H : Hs g z M s)
    (pk : Pick M [iR pa 163 pd, prR pd sv cl va, lR cl [.ref t0], tR t0 [.ref c, .ref nA], iR c 463 cd, csR cd (.int S ts), lR nA nm, dR w va (ns.map fun k => (k, .ref (df k).d)) dep, famR df st ns] R)
    (hn : IntsAre nm ns) (hnd : ns.Nodup) (hl2 : 2 ≤ ns.length) (hl : ns.length ≤ 4) (hok : ∀ k ∈ ns, OkD (st k)) (hne : ∀ k ∈ ns, (st k).xs ≠ []) (hs0 : ∀ k ∈ ns, (st k).hs = [] ∧ (st k).ss = []) (hle : ∀ k ∈ ns, ∀ x ∈ (st k).xs, intOf x ≤ S)
    (q : ∀ (DA CA VA : Addr) (dep' vep : Nat) (vl vt : Int → Addr) (t : Addr) s', Hs g z (tR t [.ref DA, .ref CA, .ref VA] :: iR c 463 cd :: csR cd (.int S ts) :: lR nA nm :: dR w DA (ns.map fun k => (k, .ref (df k).d)) dep' :: dR w VA (ns.map fun k => (k, .ref (vl k))) vep :: sR (ns.map fun k => sR [lR (vl k) [.ref (vt k)], tR (vt k) [.ref c, .ref nA]]) :: famR df st ns :: iR pa 163 pd :: prR pd sv cl va :: R) s' → Q (.ref t) s') : W w A (call (.ref 160) [.ref pa]) Q s := by
  have hsl : sizeLine = 2 ^ 24 := rfl
  have hlen : nm.length = ns.length := nm_len hn
  have H : Hs g z (iR pa 163 pd :: prR pd sv cl va :: lR cl [.ref t0] :: tR t0 [.ref c, .ref nA] :: iR c 463 cd :: csR cd (.int S ts) :: lR nA nm :: dR w va (ns.map fun k => (k, .ref (df k).d)) dep :: famR df st ns :: R) s := H.pick pk
  have hb : BindsTo s (fdOf w 160) ⟨[.ref pa], []⟩ [("self", .ref pa)] := BindsTo.of_eq (by kernel_rfl)
  generalize hdk : (ns.map fun k => (k, Value.ref (df k).d)) = dk at *
  have hdl : dk.length = ns.length := by rw [← hdk]; simp
  have hdv : ∀ k ∈ ns, valueAt dk k = some (.ref (df k).d) := fun k hk => by rw [← hdk]; exact vAt_map hk
  refine call_fn (k := n + 19) (l := [("self", some (.ref pa)), ("domains", none), ("allvariables", none), ("constraints", none), ("constraint", none), ("variables", none), ("vconstraints", none), ("variable", none), ("domain", none)]) hA B H hb ?_
  intro L s' H hA'
  with_unfolding_all refine wpAny_execs_cons ?_
  refine wpAny_Assign_Name ?_ (by kernel_rfl)
  refine callM ?_
  refine eAttr ?_
  refine nmL (by assumption) (by walk_at "m_take") (by walk_at "m_mem") ?_
  refine pr_va B H (by walk_at "m_take") (by walk_at "m_take") fun H => ?_
  refine d_meth H (by walk_at "m_take") PySem.F.slot_dict_copy PySem.F.type_dict_copy ?_
  refine d_copy B H (by walk_at "m_take") (by omega) fun DA depD s2 H => ?_
  refine stL (L := L) H (by walk_at "m_take") (by walk_at "m_upl") fun s3 H => ?_
  show W _ _ _ _ _
  refine wpAny_execs_cons ?_
  refine wpAny_Assign_Name ?_ (by kernel_rfl)
  refine Call_Name1 ?_
  refine nmB (v := .type "list") B H ?_
  refine PyProof.Rows.callWith_type rfl (evalArgs1 ?_)
  refine nmL (by assumption) (by walk_at "m_take") (by walk_at "m_mem") ?_
  refine list_dict hA'.hd H (show Take (dR w DA dk depD) _ _ from (by walk_at "m_take")) (by omega) fun AL vs s4 hvl hvs H => ?_
  refine stL (L := L) H (by walk_at "m_take") (by walk_at "m_upl") fun s5 H => ?_
  show W _ _ _ _ _
  refine wpAny_execs_cons ?_
  refine wpAny_Assign_Name ?_ (by kernel_rfl)
  refine Mine.list_ (Calls.spliced_nil ⟨g, z, _, H, by simp, fun CA s6 H => ?_⟩)
  refine stL (L := L) H (by walk_at "m_take") (by walk_at "m_upl") fun s7 H => ?_
  show W _ _ _ _ _
  refine wpAny_execs_cons ?_
  refine for_ ?_
  refine eAttr ?_
  refine nmL (by assumption) (by walk_at "m_take") (by walk_at "m_mem") ?_
  refine pr_cl B H (by walk_at "m_take") (by walk_at "m_take") fun H => ?_
  refine l_iter H (by walk_at "m_take") fun I s8 H => ?_
  refine ⟨g, z, 1, _, _, _, fun j M => (j = 0 ∧ M = frR L (cellsOf w 160 L) [("self", some (.ref pa)), ("domains", some (.ref DA)), ("allvariables", some (.ref AL)), ("constraints", some (.ref CA)), ("constraint", none), ("variables", none), ("vconstraints", none), ("variable", none), ("domain", none)] :: lR CA [] :: dR w DA dk depD :: iR pa 163 pd :: prR pd sv cl va :: lR cl [.ref t0] :: tR t0 [.ref c, .ref nA] :: iR c 463 cd :: csR cd (.int S ts) :: lR nA nm :: famR df st ns :: R) ∨
    (j = 1 ∧ ∃ t1, M = frR L (cellsOf w 160 L) [("self", some (.ref pa)), ("domains", some (.ref DA)), ("allvariables", some (.ref AL)), ("constraints", some (.ref CA)), ("constraint", some (.ref c)), ("variables", some (.ref nA)), ("vconstraints", none), ("variable", none), ("domain", none)] :: lR CA [.ref t1] :: tR t1 [.ref c, .ref nA] :: dR w DA dk depD :: iR pa 163 pd :: prR pd sv cl va :: lR cl [.ref t0] :: tR t0 [.ref c, .ref nA] :: iR c 463 cd :: csR cd (.int S ts) :: lR nA nm :: famR df st ns :: R), _, iter_list hA'.hd I cl [.ref t0], .inl ⟨rfl, rfl⟩, H.sub (by walk_at "m_sub"), ?_, ?_, ?_⟩
  · rintro j M s (⟨_, rfl⟩ | ⟨_, t1, rfl⟩) H
    · exact has_seq (a := cl) H (by walk_at "m_take")
    · exact has_seq (a := cl) H (by walk_at "m_take")
  · rintro j M y s hj (⟨rfl, rfl⟩ | ⟨rfl, _⟩) hy H
    · cases hy
      obtain ⟨_, e35, n35, rfl⟩ := H.get (x := tR t0 [.ref c, .ref nA]) (by walk_at "m_take")
      refine asg_tup hA'.hd H e35 fun s36 H => ?_
      refine wpAny_assignInOrder_more (wpAny_assign_Name ?_)
      refine stL (L := L) H (by walk_at "m_take") (by walk_at "m_upl") fun s37 H => ?_
      refine wpAny_assignInOrder_more (wpAny_assign_Name ?_)
      refine stL (L := L) H (by walk_at "m_take") (by walk_at "m_upl") fun s38 H => ?_
      refine wpAny_assignInOrder_none ?_
      refine wpAny_execs_cons ?_
      refine wpAny_If (isTrue_not (isTrue_plain ?_))
      refine nmL (by assumption) (by walk_at "m_take") (by walk_at "m_mem") ?_
      obtain ⟨n9, e9⟩ := qR_at (a := nA) H (by walk_at "m_take")
      refine lst_truthy e9 (by omega) fun n10 => ?_
      have H := H.tok n10
      rw [if_neg (by cases nm with | nil => simp at hlen; omega | cons a b => simp)]
      refine wpAny_execs_nil ?_
      show W _ _ _ _ _
      refine wpAny_execs_cons ?_
      refine wpAny_Expr ?_ (by kernel_rfl) (by kernel_rfl)
      refine callM ?_
      refine nmL (by assumption) (by walk_at "m_take") (by walk_at "m_mem") ?_
      refine lst_meth H (by walk_at "m_take") slot_list_append PySem.F.type_list_append ?_
      refine app_ ?_
      refine tuple_ (k := 0) ?_
      refine wpAny_items_cons ?_
      refine nmL (by assumption) (by walk_at "m_take") (by walk_at "m_mem") ?_
      refine wpAny_items_cons ?_
      refine nmL (by assumption) (by walk_at "m_take") (by walk_at "m_mem") ?_
      refine wpAny_items_nil ?_
      refine ⟨g, z, _, H, by simp; omega, fun t1 s8 H => ?_⟩
      refine ⟨g, z, _, _, [], H, (by walk_at "m_take"), by simp; omega, fun s9 H => ?_⟩
      show W _ _ _ _ _
      refine wpAny_execs_nil ?_
      rw [List.nil_append] at H
      exact ⟨_, .inr ⟨rfl, t1, rfl⟩, H.sub (by walk_at "m_sub")⟩
    · omega
  rintro M s (⟨h, _⟩ | ⟨_, t1, rfl⟩) H
  · cases h
  refine wpAny_execs_nil ?_
  show W _ _ _ _ _
  refine wpAny_execs_cons ?_
  refine wpAny_Assign_Name ?_ (by kernel_rfl)
  refine d_new B H fun VA s10 H => ?_
  refine stL (L := L) H (by walk_at "m_take") (by walk_at "m_upl") fun s11 H => ?_
  show W _ _ _ _ _
  refine wpAny_execs_cons ?_
  refine for_ ?_
  refine nmL (by assumption) (by walk_at "m_take") (by walk_at "m_mem") ?_
  refine d_iter H (show Take (dR w DA dk depD) _ _ from (by walk_at "m_take")) fun I2 s12 H => ?_
  refine ⟨g, z, dk.length, _, _, _, fun i M => ∃ vl ve ov, M = frR L (cellsOf w 160 L) [("self", some (.ref pa)), ("domains", some (.ref DA)), ("allvariables", some (.ref AL)), ("constraints", some (.ref CA)), ("constraint", some (.ref c)), ("variables", some (.ref nA)), ("vconstraints", some (.ref VA)), ("variable", ov), ("domain", none)] :: dR w VA ((ns.take i).map fun k => (k, .ref (vl k))) ve :: famG (fun k => lR (vl k) []) (ns.take i) :: lR CA [.ref t1] :: tR t1 [.ref c, .ref nA] :: dR w DA dk depD :: iR pa 163 pd :: prR pd sv cl va :: iR c 463 cd :: csR cd (.int S ts) :: lR nA nm :: famR df st ns :: R, _, iter_dict (a := DA) (ep := depD) hA'.hd I2, ⟨fun _ => 0, 0, none, rfl⟩, ?_, ?_, ?_, ?_⟩
  · have H : Hs g z (sR [] :: _) s12 := Hs.shut (l := []) H
    exact (show Hs g z (kiR I2 DA dk.length depD 0 :: frR L (cellsOf w 160 L) [("self", some (.ref pa)), ("domains", some (.ref DA)), ("allvariables", some (.ref AL)), ("constraints", some (.ref CA)), ("constraint", some (.ref c)), ("variables", some (.ref nA)), ("vconstraints", some (.ref VA)), ("variable", none), ("domain", none)] :: dR w VA [] 0 :: sR [] :: lR CA [.ref t1] :: tR t1 [.ref c, .ref nA] :: dR w DA dk depD :: iR pa 163 pd :: prR pd sv cl va :: iR c 463 cd :: csR cd (.int S ts) :: lR nA nm :: famR df st ns :: R) s12 from H.sub (by walk_at "m_sub"))
  · rintro i M s ⟨vl, ve, ov, rfl⟩ H; exact (dR_at (a := DA) H (by walk_at "m_take")).1
  · rintro i M v s hi ⟨vl, ve, ov, rfl⟩ ⟨k, x, t, hk, rfl⟩ H
    have hkn : ns[i]? = some k := by
      rw [← hdk, List.getElem?_map] at hk
      obtain ⟨k', e, h⟩ := Option.map_eq_some_iff.mp hk
      cases h; exact e
    have hkt : k ∉ ns.take i := not_mem_take hnd hkn
    have htk : ns.take (i + 1) = ns.take i ++ [k] := by rw [List.take_add_one, hkn]; rfl
    refine wpAny_assign_Name ?_
    refine stL (L := L) H (by walk_at "m_take") (by walk_at "m_upl") fun s13 H => ?_
    refine wpAny_execs_cons ?_
    refine wpAny_Assign_Subscript ?_ (by kernel_rfl)
    refine Mine.list_ (Calls.spliced_nil ⟨g, z, _, H, by simp, fun nl s14 H => ?_⟩)
    refine nmL (by assumption) (by walk_at "m_take") (by walk_at "m_mem") ?_
    refine nmL (by assumption) (by walk_at "m_take") (by walk_at "m_mem") ?_
    refine d_set H (show Take (dR w VA ((ns.take i).map fun k => (k, .ref (vl k))) ve) _ _ from (by walk_at "m_take")) (by rw [List.length_map, List.length_take]; omega) fun ve2 s15 H => ?_
    rw [stored_new (va_take (f := fun k => .ref (vl k)) hkt)] at H
    show W _ _ _ _ _
    refine wpAny_execs_nil ?_
    have H := famG_snoc (f := fun k => lR (vl k) []) (ns := ns.take i) (k := k) (r := lR nl []) hkt H (by walk_at "m_pick")
    refine ⟨_, ⟨fun j => if j = k then nl else vl j, ve2, some (.int k t), rfl⟩, ?_⟩
    rw [htk, List.map_append, List.map_cons, List.map_nil]
    dsimp only
    rw [if_pos rfl]
    rw [show (ns.take i).map (fun j => (j, Value.ref (if j = k then nl else vl j))) = (ns.take i).map (fun j => (j, Value.ref (vl j))) from List.map_congr_left fun j hj => by rw [if_neg (fun e : j = k => hkt (e ▸ hj))]]
    rw [show (fun k_1 => lR (if k_1 = k then nl else vl k_1) []) = (fun j => if j = k then lR nl [] else lR (vl j) []) from funext fun j => by split <;> rfl]
    exact H.sub (by walk_at "m_sub")
  rintro M s ⟨vl, ve, ov, rfl⟩ H
  rw [hdl, List.take_length] at H
  refine wpAny_execs_nil ?_
  show W _ _ _ _ _
  refine wpAny_execs_cons ?_
  refine for_ ?_
  refine nmL (by assumption) (by walk_at "m_take") (by walk_at "m_mem") ?_
  refine l_iter H (show Take (lR CA [.ref t1]) _ _ from (by walk_at "m_take")) fun I3 s14 H => ?_
  refine ⟨g, z, 1, _, _, _, fun j M => (j = 0 ∧ M = frR L (cellsOf w 160 L) [("self", some (.ref pa)), ("domains", some (.ref DA)), ("allvariables", some (.ref AL)), ("constraints", some (.ref CA)), ("constraint", some (.ref c)), ("variables", some (.ref nA)), ("vconstraints", some (.ref VA)), ("variable", ov), ("domain", none)] :: dR w VA (ns.map fun k => (k, .ref (vl k))) ve :: famG (fun k => lR (vl k) []) ns :: lR CA [.ref t1] :: tR t1 [.ref c, .ref nA] :: dR w DA dk depD :: iR pa 163 pd :: prR pd sv cl va :: iR c 463 cd :: csR cd (.int S ts) :: lR nA nm :: famR df st ns :: R) ∨
    (j = 1 ∧ ∃ (vt : Int → Addr) (ov : Option Value), M = frR L (cellsOf w 160 L) [("self", some (.ref pa)), ("domains", some (.ref DA)), ("allvariables", some (.ref AL)), ("constraints", some (.ref CA)), ("constraint", some (.ref c)), ("variables", some (.ref nA)), ("vconstraints", some (.ref VA)), ("variable", ov), ("domain", none)] :: dR w VA (ns.map fun k => (k, .ref (vl k))) ve :: famG (fun k => sR [lR (vl k) [.ref (vt k)], tR (vt k) [.ref c, .ref nA]]) ns :: lR CA [.ref t1] :: tR t1 [.ref c, .ref nA] :: dR w DA dk depD :: iR pa 163 pd :: prR pd sv cl va :: iR c 463 cd :: csR cd (.int S ts) :: lR nA nm :: famR df st ns :: R), _, iter_list hA'.hd I3 CA [.ref t1], .inl ⟨rfl, rfl⟩, H.sub (by walk_at "m_sub"), ?_, ?_, ?_⟩
  · rintro j M s (⟨_, rfl⟩ | ⟨_, vt, ov, rfl⟩) H
    · exact has_seq (a := CA) H (by walk_at "m_take")
    · exact has_seq (a := CA) H (by walk_at "m_take")
  · rintro j M y s hj (⟨rfl, rfl⟩ | ⟨rfl, _⟩) hy H
    · cases hy
      obtain ⟨_, e35, n35, rfl⟩ := H.get (x := tR t1 [.ref c, .ref nA]) (by walk_at "m_take")
      refine asg_tup hA'.hd H e35 fun s36 H => ?_
      refine wpAny_assignInOrder_more (wpAny_assign_Name ?_)
      refine stL (L := L) H (by walk_at "m_take") (by walk_at "m_upl") fun s37 H => ?_
      refine wpAny_assignInOrder_more (wpAny_assign_Name ?_)
      refine stL (L := L) H (by walk_at "m_take") (by walk_at "m_upl") fun s38 H => ?_
      refine wpAny_assignInOrder_none ?_
      refine wpAny_execs_cons ?_
      refine for_ ?_
      refine nmL (by assumption) (by walk_at "m_take") (by walk_at "m_mem") ?_
      refine l_iter H (show Take (lR nA nm) _ _ from (by walk_at "m_take")) fun I4 s15 H => ?_
      refine ⟨g, z, nm.length, _, _, _, fun i M => ∃ (vt : Int → Addr) (ov : Option Value), M = frR L (cellsOf w 160 L) [("self", some (.ref pa)), ("domains", some (.ref DA)), ("allvariables", some (.ref AL)), ("constraints", some (.ref CA)), ("constraint", some (.ref c)), ("variables", some (.ref nA)), ("vconstraints", some (.ref VA)), ("variable", ov), ("domain", none)] :: dR w VA (ns.map fun k => (k, .ref (vl k))) ve :: famG (fun k => if k ∈ ns.take i then sR [lR (vl k) [.ref (vt k)], tR (vt k) [.ref c, .ref nA]] else lR (vl k) []) ns :: liR I3 CA (0 + 1) :: lR CA [.ref t1] :: tR t1 [.ref c, .ref nA] :: dR w DA dk depD :: iR pa 163 pd :: prR pd sv cl va :: iR c 463 cd :: csR cd (.int S ts) :: lR nA nm :: famR df st ns :: R, _, iter_list hA'.hd I4 nA nm, ⟨fun _ => 0, ov, rfl⟩, ?_, ?_, ?_, ?_⟩
      · rw [famG_eq (f := fun k => if k ∈ ns.take 0 then _ else _) (f' := fun k => lR (vl k) []) (fun k _ => by simp)]
        exact H.sub (by walk_at "m_sub")
      · rintro i M s ⟨vt, ov, rfl⟩ H; exact has_seq (a := nA) H (by walk_at "m_take")
      · rintro i M v s hi ⟨vt, ov, rfl⟩ hv H
        obtain ⟨k, tk, hk, rfl⟩ := nm_get hn hv
        have hkn : k ∈ ns := List.mem_of_getElem? hk
        have hkt : k ∉ ns.take i := not_mem_take hnd hk
        have htk : ns.take (i + 1) = ns.take i ++ [k] := by rw [List.take_add_one, hk]; rfl
        refine wpAny_assign_Name ?_
        refine stL (L := L) H (by walk_at "m_take") (by walk_at "m_upl") fun s16 H => ?_
        refine wpAny_execs_cons ?_
        refine wpAny_Expr ?_ (by kernel_rfl) (by kernel_rfl)
        refine callM ?_
        refine sub_dict ?_
        refine nmL (by assumption) (by walk_at "m_take") (by walk_at "m_mem") ?_
        refine nmL (by assumption) (by walk_at "m_take") (by walk_at "m_mem") ?_
        refine ⟨g, z, _, _, VA, _, ve, k, tk, _, rfl, rfl, H, (show Take (dR w VA (ns.map fun k => (k, .ref (vl k))) ve) _ _ from (by walk_at "m_take")), vAt_map hkn, fun s17 H => ?_⟩
        obtain ⟨pre, post, ens, H⟩ := famG_out hkn (H.take (x := famG (fun k => if k ∈ ns.take i then sR [lR (vl k) [.ref (vt k)], tR (vt k) [.ref c, .ref nA]] else lR (vl k) []) ns) (by walk_at "m_take"))
        rw [if_neg hkt] at H
        refine lst_meth H Take.head slot_list_append PySem.F.type_list_append ?_
        refine app_ ?_
        refine tuple_ (k := 0) ?_
        refine wpAny_items_cons ?_
        refine nmL (by assumption) (by walk_at "m_take") (by walk_at "m_mem") ?_
        refine wpAny_items_cons ?_
        refine nmL (by assumption) (by walk_at "m_take") (by walk_at "m_mem") ?_
        refine wpAny_items_nil ?_
        refine ⟨g, z, _, H, by simp; omega, fun t2 s18 H => ?_⟩
        refine ⟨g, z, _, _, [], H, (show Take (lR (vl k) []) _ _ from (by walk_at "m_take")), by simp; omega, fun s19 H => ?_⟩
        show W _ _ _ _ _
        refine wpAny_execs_nil ?_
        rw [List.nil_append] at H
        have H := Hs.shut (l := [lR (vl k) [.ref t2], tR t2 [.ref c, .ref nA]]) H
        have H := famG_in (by rw [← ens]; exact hnd) H
        rw [← ens] at H
        refine ⟨_, ⟨fun j => if j = k then t2 else vt j, some (.int k tk), rfl⟩, ?_⟩
        rw [famG_eq (f' := fun j => if j = k then sR [lR (vl k) [.ref t2], tR t2 [.ref c, .ref nA]] else (if j ∈ ns.take i then sR [lR (vl j) [.ref (vt j)], tR (vt j) [.ref c, .ref nA]] else lR (vl j) [])) (fun j _ => by
          rw [htk]
          by_cases e : j = k
          · subst e; simp
          · simp [e])]
        exact H.sub (by walk_at "m_sub")
      · rintro M s ⟨vt, ov, rfl⟩ H
        rw [hlen, List.take_length] at H
        refine wpAny_execs_nil ?_
        show W _ _ _ _ _
        refine wpAny_execs_nil ?_
        refine ⟨_, .inr ⟨rfl, vt, ov, rfl⟩, ?_⟩
        rw [famG_eq (f := fun k => if k ∈ ns then _ else _) (f' := fun k => sR [lR (vl k) [.ref (vt k)], tR (vt k) [.ref c, .ref nA]]) (fun k hk => by simp [hk])] at H
        exact H.sub (by walk_at "m_sub")
    · omega
  rintro M s (⟨h, _⟩ | ⟨_, vt, ov, rfl⟩) H
  · cases h
  refine wpAny_execs_nil ?_
  show W _ _ _ _ _
  refine wpAny_execs_cons ?_
  refine for_ ?_
  refine lst_slice ?_
  refine nmL (by assumption) (by walk_at "m_take") (by walk_at "m_mem") ?_
  rw [evalPart_none]
  refine wpAny_pure (wpAny_pure ?_)
  refine ⟨g, z, _, _, CA, [.ref t1], none, none, H, (by walk_at "m_take"), by simp; omega, rfl, .none, .none, fun CB s20 H => ?_⟩
  rw [slicePick_all] at H
  have H : Hs g z (lR CB [.ref t1] :: _) s20 := H
  refine l_iter H Take.head fun I5 s21 H => ?_
  refine ⟨g, z, 1, _, _, _, fun j M => M = frR L (cellsOf w 160 L) [("self", some (.ref pa)), ("domains", some (.ref DA)), ("allvariables", some (.ref AL)), ("constraints", some (.ref CA)), ("constraint", some (.ref c)), ("variables", some (.ref nA)), ("vconstraints", some (.ref VA)), ("variable", ov), ("domain", none)] :: lR CB [.ref t1] :: dR w VA (ns.map fun k => (k, .ref (vl k))) ve :: famG (fun k => sR [lR (vl k) [.ref (vt k)], tR (vt k) [.ref c, .ref nA]]) ns :: lR CA [.ref t1] :: tR t1 [.ref c, .ref nA] :: dR w DA dk depD :: iR pa 163 pd :: prR pd sv cl va :: iR c 463 cd :: csR cd (.int S ts) :: lR nA nm :: famR df st ns :: R, _, iter_list hA'.hd I5 CB [.ref t1], rfl, H.sub (by walk_at "m_sub"), ?_, ?_, ?_⟩
  · rintro j M s rfl H; exact has_seq (a := CB) H (by walk_at "m_take")
  · rintro j M y s hj rfl hy H
    obtain rfl : j = 0 := by omega
    cases hy
    obtain ⟨_, e35, n35, rfl⟩ := H.get (x := tR t1 [.ref c, .ref nA]) (by walk_at "m_take")
    refine asg_tup hA'.hd H e35 fun s36 H => ?_
    refine wpAny_assignInOrder_more (wpAny_assign_Name ?_)
    refine stL (L := L) H (by walk_at "m_take") (by walk_at "m_upl") fun s37 H => ?_
    refine wpAny_assignInOrder_more (wpAny_assign_Name ?_)
    refine stL (L := L) H (by walk_at "m_take") (by walk_at "m_upl") fun s38 H => ?_
    refine wpAny_assignInOrder_none ?_
    refine wpAny_execs_cons ?_
    refine wpAny_Expr ?_ (by kernel_rfl) (by kernel_rfl)
    refine callM ?_
    refine nmL (by assumption) (by walk_at "m_take") (by walk_at "m_mem") ?_
    obtain ⟨_, e2, a1, a2, u1, u2, n2, rfl⟩ := H.get (x := csR cd (.int S ts)) (by walk_at "m_take")
    refine gm (f := 452) (B.x H) (i_at H (x := c) (by walk_at "m_take")) rfl rfl rfl e2 (by kernel_rfl) ?_
    refine cwF ?_
    refine evalArgs_plain (spliced_cons ?_)
    refine nmL (by assumption) (by walk_at "m_take") (by walk_at "m_mem") ?_
    refine spliced_cons ?_
    refine nmL (by assumption) (by walk_at "m_take") (by walk_at "m_mem") ?_
    refine spliced_cons ?_
    refine nmL (by assumption) (by walk_at "m_take") (by walk_at "m_mem") ?_
    refine spliced_cons ?_
    refine nmL (by assumption) (by walk_at "m_take") (by walk_at "m_mem") ?_
    refine spliced_nil ?_
    refine ⟨rfl, B.x H, ?_⟩
    refine fn_pre (n := n) (dk := dk) (dep := depD) (st := st) (df := df) (hA'.le (by omega)) B H (by walk_at "m_pick") hn hnd hl2 (by omega) hdv hok hle fun s22 H => ?_
    show W _ _ _ _ _
    refine wpAny_execs_nil ?_
    exact ⟨_, rfl, H.sub (by walk_at "m_sub")⟩
  rintro M s rfl H
  refine wpAny_execs_nil ?_
  show W _ _ _ _ _
  refine wpAny_execs_cons ?_
  refine for_ ?_
  refine callM ?_
  refine nmL (by assumption) (by walk_at "m_take") (by walk_at "m_mem") ?_
  refine d_meth H (show Take (dR w DA dk depD) _ _ from (by walk_at "m_take")) PySem.F.slot_dict_values PySem.F.type_dict_values ?_
  refine d_values H (show Take (dR w DA dk depD) _ _ from (by walk_at "m_take")) fun vw s23 H => ?_
  refine vw_iter H Take.head (show Take (dR w DA dk depD) _ _ from (by walk_at "m_take")) fun I6 s24 H => ?_
  refine ⟨g, z, dk.length, _, _, _, fun j M => ∃ od, M = frR L (cellsOf w 160 L) [("self", some (.ref pa)), ("domains", some (.ref DA)), ("allvariables", some (.ref AL)), ("constraints", some (.ref CA)), ("constraint", some (.ref c)), ("variables", some (.ref nA)), ("vconstraints", some (.ref VA)), ("variable", ov), ("domain", od)] :: dR w VA (ns.map fun k => (k, .ref (vl k))) ve :: famG (fun k => sR [lR (vl k) [.ref (vt k)], tR (vt k) [.ref c, .ref nA]]) ns :: lR CA [.ref t1] :: tR t1 [.ref c, .ref nA] :: dR w DA dk depD :: iR pa 163 pd :: prR pd sv cl va :: iR c 463 cd :: csR cd (.int S ts) :: lR nA nm :: famR df st ns :: R, _, iter_vals (a := DA) (ep := depD) hA'.hd I6, ⟨none, rfl⟩, H.sub (by walk_at "m_sub"), ?_, ?_, ?_⟩
  · rintro i M s ⟨od, rfl⟩ H; exact (dR_at (a := DA) (kvs := dk) H (by walk_at "m_take")).1
  · rintro i M v s hi ⟨od, rfl⟩ ⟨k0, hk0⟩ H
    obtain ⟨k, hkn, rfl⟩ : ∃ k ∈ ns, v = .ref (df k).d := by
      rw [← hdk, List.getElem?_map] at hk0
      obtain ⟨k', e, h⟩ := Option.map_eq_some_iff.mp hk0
      cases h; exact ⟨k0, List.mem_of_getElem? e, rfl⟩
    have hxl := (hok k hkn).len
    refine wpAny_assign_Name ?_
    refine stL (L := L) H (by walk_at "m_take") (by walk_at "m_upl") fun s25 H => ?_
    refine wpAny_execs_cons ?_
    refine wpAny_Expr ?_ (by kernel_rfl) (by kernel_rfl)
    refine callM ?_
    refine nmL (by assumption) (by walk_at "m_take") (by walk_at "m_mem") ?_
    refine dom_call (f := 332) (df := df) (st := st) (ns := ns) B H (by walk_at "m_take") hkn (by intros; kernel_rfl) ?_ (by kernel_rfl)
    refine cwF ?_
    refine PyProof.Rows.evalArgs_none ⟨rfl, B.x H, ?_⟩
    refine fam_reset (n := n) (k := k) (df := df) (st := st) (ns := ns) (hA'.le (by omega)) B H (by walk_at "m_take") hnd hkn (by omega) (hs0 k hkn).1 (hs0 k hkn).2 fun s26 H => ?_
    show W _ _ _ _ _
    refine wpAny_execs_cons ?_
    refine wpAny_If (isTrue_not (isTrue_plain ?_))
    refine nmL (by assumption) (by walk_at "m_take") (by walk_at "m_mem") ?_
    obtain ⟨n7, e7⟩ := fam_at (df := df) (st := st) (ns := ns) H (by walk_at "m_take") hkn
    refine own_truthy (B.x H) e7 (by omega) ?_
    have H := H.tok (s26.toks + 1 + 1)
    rw [if_neg (by cases hx : (st k).xs with | nil => exact absurd hx (hne k hkn) | cons a b => simp)]
    refine wpAny_execs_nil ?_
    show W _ _ _ _ _
    refine wpAny_execs_nil ?_
    exact ⟨_, ⟨some (.ref (df k).d), rfl⟩, H.sub (by walk_at "m_sub")⟩
  rintro M s ⟨od, rfl⟩ H
  refine wpAny_execs_nil ?_
  show W _ _ _ _ _
  refine wpAny_execs_cons ?_
  refine wpAny_Return_some ?_
  refine tuple_ (k := 0) ?_
  refine wpAny_items_cons ?_
  refine nmL (by assumption) (by walk_at "m_take") (by walk_at "m_mem") ?_
  refine wpAny_items_cons ?_
  refine nmL (by assumption) (by walk_at "m_take") (by walk_at "m_mem") ?_
  refine wpAny_items_cons ?_
  refine nmL (by assumption) (by walk_at "m_take") (by walk_at "m_mem") ?_
  refine wpAny_items_nil ?_
  refine ⟨g, z, _, H, by simp; omega, fun t s27 H => ?_⟩
  exact q DA CA VA depD ve vl vt t s27 (show Hs g z (tR t [.ref DA, .ref CA, .ref VA] :: iR c 463 cd :: csR cd (.int S ts) :: lR nA nm :: dR w DA dk depD :: dR w VA (ns.map fun k => (k, .ref (vl k))) ve :: famG (fun k => sR [lR (vl k) [.ref (vt k)], tR (vt k) [.ref c, .ref nA]]) ns :: famR df st ns :: iR pa 163 pd :: prR pd sv cl va :: R) s27 from H.sub (by walk_at "m_sub"))
end
end
section
section
variable {w : World} {g : Heap} {z : Shared} {A : Around} {s : Shared} {M M' R : List Res} {env : Env}
/-- what the solver's getSolutions does -/
def GetOk (w : World) (g : Heap) (C f sv sd : Addr) (fb : Bool) : Prop := ∀ (p : Pb) (ca : Value) (st0 : Int → DS) (z : Shared) (A : Around) (s : Shared) (R : List Res) (Q : Value → Shared → Prop), Ok 300 A → p.Ok → Node p [] st0 → (∀ k ∈ p.ns, (st0 k).xs ≠ []) →
  Hs g z (iR sv C sd :: fcR sd fb :: iR p.c 463 p.cd :: csR p.cd (.int p.S p.ts) :: lR p.nA p.nm :: dR w p.DA p.dk p.dep :: dR w p.VA p.vk p.vep :: vcsR p :: famR p.df st0 p.ns :: R) s →
  (∀ S Y z' s', Sol p.S p.ns (Comp p.S p.ns [] st0) Y → Y.length ≤ 100 → z'.os = z.os → (AllBare z.gens → AllBare z'.gens) → Hs g z' (lR S (Y.map fun q => .ref q.1) :: solsR w Y :: lR p.nA p.nm :: R) s' → Q (.ref S) s') →
  W w A (call (.ref f) [.ref sv, .ref p.DA, ca, .ref p.VA]) Q s
theorem get_bt_ok {sv sd : Addr} {fb : Bool} (B : Base w g) : GetOk w g 239 236 sv sd fb := fun _ _ _ _ _ _ _ _ hA hp hN hne H q => get_bt (hA.le (by omega)) B hp hN hne H q
theorem get_rec_ok {sv sd : Addr} {fb : Bool} (B : Base w g) : GetOk w g 278 275 sv sd fb := fun _ _ _ _ _ _ _ _ hA hp hN _ H q => get_rec hA B hp hN H q
theorem fn_sols {C f pa pd sv sd cl va c cd nA t0 : Addr} {fb : Bool} {nm : List Value} {ns : List Int} {S : Int} {ts : Tok} {df : Int → DA4} {st : Int → DS} {dep : Nat} {Q : Value → Shared → Prop} (hget : GetOk w g C f sv sd fb) (hm : methOk w C "getSolutions" f = true) (hfk : fnOk w f = true) (hA : Ok 330 A) (B : Base w g)
    (H : Hs g z (iR sv C sd :: fcR sd fb :: iR pa 163 pd :: prR pd sv cl va :: lR cl [.ref t0] :: tR t0 [.ref c, .ref nA] :: iR c 463 cd :: csR cd (.int S ts) :: lR nA nm :: dR w va (ns.map fun k => (k, .ref (df k).d)) dep :: famR df st ns :: R) s)
    (hn : IntsAre nm ns) (hnd : ns.Nodup) (hl2 : 2 ≤ ns.length) (hl : ns.length ≤ 4) (hok : ∀ k ∈ ns, OkD (st k)) (hne : ∀ k ∈ ns, (st k).xs ≠ []) (hs0 : ∀ k ∈ ns, (st k).hs = [] ∧ (st k).ss = []) (hle : ∀ k ∈ ns, ∀ x ∈ (st k).xs, intOf x ≤ S) (hx2 : ∀ k ∈ ns, (st k).xs.length ≤ 2) (hnn : ∀ k ∈ ns, ∀ x ∈ (st k).xs, 0 ≤ intOf x)
    (q : ∀ X Y z' s', Sol S ns (Comp S ns [] st) Y → Y.length ≤ 100 → z'.os = z.os → (AllBare z.gens → AllBare z'.gens) → Hs g z' (lR X (Y.map fun q => .ref q.1) :: solsR w Y :: lR nA nm :: R) s' → Q (.ref X) s') : W w A (call (.ref 146) [.ref pa]) Q s := by
  have hsl : sizeLine = 2 ^ 24 := rfl
  have hb : BindsTo s (fdOf w 146) ⟨[.ref pa], []⟩ [("self", .ref pa)] := BindsTo.of_eq (by kernel_rfl)
  refine call_fn (k := 329) (l := [("self", some (.ref pa)), ("domains", none), ("constraints", none), ("vconstraints", none)]) hA B H hb ?_
  intro L s' H hA'
  with_unfolding_all refine wpAny_execs_cons ?_
  refine Assign_Tuple ?_ (by kernel_rfl) (by kernel_rfl)
  refine callM ?_
  refine nmL (by assumption) (by walk_at "m_take") (by walk_at "m_mem") ?_
  refine pr_meth (f := 160) B H (by walk_at "m_take") (by walk_at "m_take") (by intros; kernel_rfl) ?_
  refine cwF ?_
  refine PyProof.Rows.evalArgs_none ⟨rfl, B.x H, ?_⟩
  refine fn_args (n := 300) (ns := ns) (st := st) (df := df) (dep := dep) (ts := ts) (hA'.le (by omega)) B H (by walk_at "m_pick") hn hnd hl2 hl hok hne hs0 hle fun DA CA VA dep' vep vl vt t s2 H => ?_
  obtain ⟨_, e35, n35, rfl⟩ := H.get (x := tR t [.ref DA, .ref CA, .ref VA]) (by walk_at "m_take")
  refine asg_tup hA'.hd H e35 fun s36 H => ?_
  refine wpAny_assignInOrder_more (wpAny_assign_Name ?_)
  refine stL (L := L) H (by walk_at "m_take") (by walk_at "m_upl") fun s37 H => ?_
  refine wpAny_assignInOrder_more (wpAny_assign_Name ?_)
  refine stL (L := L) H (by walk_at "m_take") (by walk_at "m_upl") fun s38 H => ?_
  refine wpAny_assignInOrder_more (wpAny_assign_Name ?_)
  refine stL (L := L) H (by walk_at "m_take") (by walk_at "m_upl") fun s39 H => ?_
  refine wpAny_assignInOrder_none ?_
  show W _ _ _ _ _
  refine wpAny_execs_cons ?_
  refine wpAny_If (isTrue_not (isTrue_plain ?_))
  refine nmL (by assumption) (by walk_at "m_take") (by walk_at "m_mem") ?_
  refine d_truthy H (show Take (dR w DA (ns.map fun k => (k, .ref (df k).d)) dep') _ _ from (by walk_at "m_take")) (by simp; omega) fun s3 H => ?_
  rw [if_neg (by cases ns with | nil => simp at hl2 | cons a b => simp)]
  refine wpAny_execs_nil ?_
  show W _ _ _ _ _
  refine wpAny_execs_cons ?_
  refine wpAny_Return_some ?_
  refine callM ?_
  refine eAttr ?_
  refine nmL (by assumption) (by walk_at "m_take") (by walk_at "m_mem") ?_
  refine pr_sv B H (by walk_at "m_take") (by walk_at "m_take") fun H => ?_
  refine sv_meth (C := C) (sd := sd) (fb := fb) (f := f) B H (by walk_at "m_take") (by walk_at "m_take") (by intros; kernel_rfl) ?_ hm
  refine cwF ?_ hfk
  refine evalArgs_plain (spliced_cons ?_)
  refine nmL (by assumption) (by walk_at "m_take") (by walk_at "m_mem") ?_
  refine spliced_cons ?_
  refine nmL (by assumption) (by walk_at "m_take") (by walk_at "m_mem") ?_
  refine spliced_cons ?_
  refine nmL (by assumption) (by walk_at "m_take") (by walk_at "m_mem") ?_
  refine spliced_nil ?_
  refine ⟨rfl, B.x H, ?_⟩
  have hun : unN ns [] = ns.length := by
    unfold unN
    rw [show (fun k => (valueAt ([] : List (Int × Value)) k).isNone) = fun _ => true from rfl, List.filter_eq_self.mpr (fun k _ => rfl)]
  let p : Pb := ⟨ns, nm, nA, c, cd, S, ts, df, DA, VA, dep', vep, vl, vt⟩
  refine hget p (.ref CA) st z _ _ R _ (hA'.le (by omega)) ⟨hn, hnd, hl2, hl⟩ ⟨fun k x e => (by cases e), by show 0 + _ = _; rw [hun, Nat.zero_add], fun k hk => ⟨hok k hk, by rw [hun, (hs0 k hk).2]; simp; omega⟩, hx2, ⟨fun k hk x e => (by cases e), hnn⟩⟩ hne ?_ q
  exact (show Hs g z (iR sv C sd :: fcR sd fb :: iR c 463 cd :: csR cd (.int S ts) :: lR nA nm :: dR w DA (ns.map fun k => (k, .ref (df k).d)) dep' :: dR w VA (ns.map fun k => (k, .ref (vl k))) vep :: sR (ns.map fun k => sR [lR (vl k) [.ref (vt k)], tR (vt k) [.ref c, .ref nA]]) :: famR df st ns :: R) _ from H.sub (by walk_at "m_sub"))
end
end
section
/-- a list of ints -/
def zR (l : Addr) (ns : List Int) : Res := cR l fun o => ∃ vs n, IntsAre vs ns ∧ o = ⟨.type "list", none, .seq (vs : List Value).toArray n, #[]⟩
/-- the bounds that all numbers of the law keep -/
def Small (ns : List Int) : Prop := ns.length ≤ 1000 ∧ ∀ k ∈ ns, 0 ≤ k ∧ k ≤ 2 ^ 40
theorem ints_set {x : Int} {t : Tok} : ∀ {vs : List Value} {ns : List Int}, IntsAre vs ns → ∀ j : Nat, IntsAre (vs.set j (.int x t)) (ns.set j x)
  | _, _, .nil, _ => .nil
  | _, _, .cons a b c, 0 => .cons x t c
  | _, _, .cons a b c, j + 1 => .cons a b (ints_set c j)
theorem entry_rgi : entryFor table "range_iterator.__iter__" = some Builtin.«dict_keyiterator.__iter__» :=
  entryFor_alias (id' := "dict_keyiterator.__iter__") (by kernel_rfl) (by first | rfl | decide +kernel | (unfold String.splitOn; simp +decide [String.splitOnAux])) (by decide +kernel) (by kernel_rfl)
section
variable {w : World} {g : Heap} {z : Shared} {A : Around} {s : Shared} {M M' R : List Res} {env : Env} {l : Addr} {ns : List Int}
theorem Hs.toz {vs : List Value} (H : Hs g z (lR l vs :: M) s) (hi : IntsAre vs ns) : Hs g z (zR l ns :: M) s :=
  H.imp (fun _ f => f) fun ⟨o, e, n, eo⟩ => ⟨o, e, vs, n, hi, eo⟩
theorem Hs.ofz (H : Hs g z M s) (t : Take (zR l ns) M M') : ∃ vs, IntsAre vs ns ∧ Hs g z (lR l vs :: M') s := by
  obtain ⟨o, e, vs, n, hi, eo⟩ := H.get t
  refine ⟨vs, hi, ?_⟩
  have := (H.take t).put (h' := s.heap) (t := s.toks) (r := lR l vs) (fun _ f => f) (fun _ _ _ e => e) ⟨o, e, n, eo⟩
  exact this
theorem z_at (H : Hs g z M s) (t : Take (zR l ns) M M') : ∃ vs n, IntsAre vs ns ∧ s.heap.get? l = some ⟨.type "list", none, .seq (vs : List Value).toArray n, #[]⟩ := by
  obtain ⟨o, e, vs, n, hi, rfl⟩ := H.get t
  exact ⟨vs, n, hi, e⟩
theorem ints_snoc {vs : List Value} {k : Int} {t : Tok} (h : IntsAre vs ns) : IntsAre (vs ++ [.int k t]) (ns ++ [k]) := h.append (.cons k t .nil)
theorem take_snoc {f : Nat → Int} {n i : Nat} : (List.range (i + 1)).map f = (List.range i).map f ++ [f i] := by rw [List.range_succ, List.map_append]; rfl
def seqZ (l : Addr) (ns : List Int) (h : Heap) : Prop := ∃ vs, IntsAre vs ns ∧ hasSeq l vs h
theorem has_z (H : Hs g z M s) (t : Take (zR l ns) M M') : seqZ l ns s.heap := by
  obtain ⟨vs, n, hi, e⟩ := z_at H t
  exact ⟨vs, hi, _, _, n, e⟩
theorem z_iter {Q : Value → Shared → Prop} (H : Hs g z M s) (t : Take (zR l ns) M M') (q : ∀ I s', Hs g z (liR I l 0 :: M) s' → Q (.ref I) s') : W w A (pyIter (.ref l)) Q s := by
  obtain ⟨vs, n, hi, e⟩ := z_at H t
  exact wpAny_pyIter_list ⟨_, e, rfl, n, rfl⟩ (q _ _ (new_obj H ⟨rfl, rfl⟩ rfl s.toks))
theorem iter_z (hh : A.handled = none) (I l : Addr) (ns : List Int) : Iter w A (.ref I) ns.length (fun i v => ∃ k t, ns[i]? = some k ∧ v = .int k t) (liR I l) (seqZ l ns) where
  next := by
    rintro g z i M s Q hi ⟨vs, hv, hs⟩ H q
    refine (iter_list hh I l vs).next g z i M s Q (by rw [nm_len hv]; exact hi) hs H fun v s' e H' => ?_
    obtain ⟨k, t, hk, rfl⟩ := nm_get hv e
    exact q _ s' ⟨k, t, hk, rfl⟩ H'
  done := by
    rintro g z M s Q ⟨vs, hv, hs⟩ H q
    exact (iter_list hh I l vs).done g z M s Q hs (by rw [nm_len hv]; exact H) q
  self := by
    rintro g z i M s Q H q
    exact (iter_list (A := A) (w := w) hh I l []).self g z i M s Q H q
  go := by
    rintro g z i M s t v Q ⟨k, u, hk, rfl⟩ H q
    unfold letOwnedTupleGo
    split <;> exact wpAny_pure (q _ H)
theorem z_len {Q : Value → Shared → Prop} (H : Hs g z M s) (t : Take (zR l ns) M M') (hl : ns.length ≤ 1000) (q : ∀ t s', Hs g z M s' → Q (.int ns.length t) s') : W w A (call (.builtin "len") [.ref l]) Q s := by
  have hsl : sizeLine = 2 ^ 24 := rfl
  obtain ⟨vs, n, hi, e⟩ := z_at H t
  refine len_list H e (by rw [nm_len hi]; omega) fun t s' H => ?_
  have := q t s' H
  rwa [← nm_len hi] at this
theorem z_item {k : Int} {u : Tok} {x : Int} {Q : Value → Shared → Prop} (H : Hs g z M s) (t : Take (zR l ns) M M') (hl : ns.length ≤ 1000) (h0 : 0 ≤ k) (hx : ns[k.toNat]? = some x) (q : ∀ t, Q (.int x t) s) : W w A (getItem (.ref l) (.int k u)) Q s := by
  obtain ⟨vs, n, hi, e⟩ := z_at H t
  have hlen := nm_len hi
  have hlt := (List.getElem?_eq_some_iff.mp hx).1
  have hv : vs[k.toNat]? = some vs[k.toNat] := List.getElem?_eq_getElem (by omega)
  obtain ⟨y, ty, hy, ey⟩ := nm_get hi hv
  rw [hx] at hy; cases hy
  rw [ey] at hv
  exact wpAny_getItem_list (items := vs.toArray) ⟨_, e, rfl, n, rfl⟩ h0 (by omega) (by simpa using hv) (q ty)
theorem z_item_neg {k : Int} {u : Tok} {x : Int} {Q : Value → Shared → Prop} (H : Hs g z M s) (t : Take (zR l ns) M M') (hl : ns.length ≤ 1000) (h0 : k < 0) (h1 : -(ns.length : Int) ≤ k) (hx : ns[(k + ns.length).toNat]? = some x) (q : ∀ t, Q (.int x t) s) : W w A (getItem (.ref l) (.int k u)) Q s := by
  obtain ⟨vs, n, hi, e⟩ := z_at H t
  have hlen := nm_len hi
  have hlt := (List.getElem?_eq_some_iff.mp hx).1
  have hv : vs[(k + ns.length).toNat]? = some vs[(k + ns.length).toNat] := List.getElem?_eq_getElem (by omega)
  obtain ⟨y, ty, hy, ey⟩ := nm_get hi hv
  rw [hx] at hy; cases hy
  rw [ey] at hv
  exact wpAny_getItem_list_neg (items := vs.toArray) ⟨_, e, rfl, n, rfl⟩ h0 (by simp; omega) (by omega) (by simpa [hlen] using hv) (q ty)
theorem pre_sum {f : Nat → Int} : ∀ {n : Nat}, preSum f n = ((List.range n).map f).sum
  | 0 => rfl
  | n + 1 => by rw [preSum, pre_sum, List.range_succ, List.map_append, List.sum_append]; simp
theorem sum_le_of {f : List Int} {c : Int} (h : ∀ k ∈ f, 0 ≤ k ∧ k ≤ c) : 0 ≤ f.sum ∧ f.sum ≤ f.length * c := by
  induction f with
  | nil => simp
  | cons a r ih =>
    have h1 := h a List.mem_cons_self
    have h2 := ih fun k hk => h k (List.mem_cons_of_mem _ hk)
    rw [List.sum_cons, List.length_cons, Int.natCast_succ, Int.add_mul, Int.one_mul]
    omega
theorem z_sum {Q : Value → Shared → Prop} (hh : A.handled = none) (H : Hs g z M s) (t : Take (zR l ns) M M') (hs : Small ns) (q : ∀ t s', Hs g z M s' → Q (.int ns.sum t) s') : W w A (call (.builtin "sum") [.ref l]) Q s := by
  obtain ⟨vs, n, hi, e⟩ := z_at H t
  obtain ⟨xs, ex⟩ := hi.allInts.items
  have hns : ns = xs.toList.map (·.1) := by rw [← hi.numsOf, ← nums_intItems, ← ex]
  have hlen : ns.length = xs.size := by rw [hns, List.length_map, Array.length_toList]
  have hat : ∀ i, i < xs.size → ns[i]? = some (numAt xs i) := fun i hi => by
    rw [hns, List.getElem?_map, Array.getElem?_toList, Array.getElem?_eq_getElem hi]
    unfold numAt
    rw [Array.getElem?_eq_getElem hi]; rfl
  have hpre : ∀ j, j ≤ xs.size → preSum (numAt xs) j = (ns.take j).sum := fun j hj => by
    rw [pre_sum]
    congr 1
    refine List.ext_getElem? fun i => ?_
    rw [List.getElem?_map, List.getElem?_take]
    by_cases h : i < j
    · rw [if_pos h, hat i (by omega), List.getElem?_range h]; rfl
    · rw [if_neg h, List.getElem?_eq_none (by simp; omega)]; rfl
  refine sum_intList (xs := xs) hh (by rw [← ex]; exact ⟨_, e, rfl, n, rfl⟩) (fun j hj => ?_) fun h' tk t' hk => ?_
  · have h1 := hs.2 _ (List.mem_of_getElem? (hat j hj))
    have h2 := sum_le_of (f := ns.take (j + 1)) (c := 2 ^ 40) fun k hk => hs.2 k (List.mem_of_mem_take hk)
    have h3 : (ns.take (j + 1)).length ≤ 1000 := by rw [List.length_take]; have := hs.1; omega
    rw [hpre _ (by omega)]
    unfold InLong
    omega
  · have := q t' _ (H.keeps ⟨h', tk, rfl, hk⟩)
    rw [hpre _ (Nat.le_refl _), ← hlen, List.take_length]
    exact this
theorem z_sorted {Q : Value → Shared → Prop} (H : Hs g z M s) (t : Take (zR l ns) M M') (hl : ns.length < 64) (q : ∀ a ms s', ms.Perm ns → ms.Pairwise (· ≤ ·) → Hs g z (zR a ms :: M) s' → Q (.ref a) s') : W w A (call (.builtin "sorted") [.ref l]) Q s := by
  obtain ⟨vs, n, hi, e⟩ := z_at H t
  have hlen := nm_len hi
  refine sorted_ints (vs := vs) ⟨_, e, rfl, n, rfl⟩ hi (by omega) fun out ns' a1 a2 a3 => ?_
  obtain ⟨e, he⟩ := sortedAll_at s.heap vs out
  refine q _ ns' _ a2 a3 (H.new ⟨_, s.toks, rfl, fun b o e => sortedAll_old e⟩ (fun b f => ?_) ⟨_, he, out.toList, e, a1, by simp [seqObj]⟩)
  cases f
  cases q : s.heap.get? (s.heap.objs.size + 1) with
  | none => rfl
  | some o => exact absurd (Heap.lt_size q) (Nat.not_lt.mpr (Nat.le_succ _))
theorem z_max {Q : Value → Shared → Prop} (hh : A.handled = none) (H : Hs g z M s) (t : Take (zR l ns) M M') (hne : 0 < ns.length) (q : ∀ x t s', x ∈ ns → (∀ a ∈ ns, a ≤ x) → Hs g z M s' → Q (.int x t) s') : W w A (call (.builtin "max") [.ref l]) Q s := by
  obtain ⟨vs, n, hi, e⟩ := z_at H t
  obtain ⟨xs, ex⟩ := hi.allInts.items
  have hns : ns = xs.toList.map (·.1) := by rw [← hi.numsOf, ← nums_intItems, ← ex]
  have hsz : 0 < xs.size := by rw [hns, List.length_map, Array.length_toList] at hne; exact hne
  refine max_intList (xs := xs) hh (by rw [← ex]; exact ⟨_, e, rfl, n, rfl⟩) hsz fun v h' tk hv hk => ?_
  obtain ⟨t, rfl⟩ := intItems_at hv
  obtain ⟨h1, h2⟩ := argBest_gt (numAt xs) (xs.size - 1)
  refine q _ t _ ?_ (fun a ha => ?_) (H.keeps ⟨h', tk, rfl, hk⟩)
  · rw [hns, numAt_eq]; exact getD_mem (by rw [List.length_map, Array.length_toList]; omega)
  · rw [hns] at ha
    obtain ⟨j, hj, rfl⟩ := mem_getD ha
    rw [List.length_map, Array.length_toList] at hj
    rw [← numAt_eq]; exact h2 j (by omega)
theorem z_min {Q : Value → Shared → Prop} (hh : A.handled = none) (H : Hs g z M s) (t : Take (zR l ns) M M') (hne : 0 < ns.length) (q : ∀ x t s', x ∈ ns → (∀ a ∈ ns, x ≤ a) → Hs g z M s' → Q (.int x t) s') : W w A (call (.builtin "min") [.ref l]) Q s := by
  obtain ⟨vs, n, hi, e⟩ := z_at H t
  obtain ⟨xs, ex⟩ := hi.allInts.items
  have hns : ns = xs.toList.map (·.1) := by rw [← hi.numsOf, ← nums_intItems, ← ex]
  have hsz : 0 < xs.size := by rw [hns, List.length_map, Array.length_toList] at hne; exact hne
  refine min_intList (xs := xs) hh (by rw [← ex]; exact ⟨_, e, rfl, n, rfl⟩) hsz fun v h' tk hv hk => ?_
  obtain ⟨t, rfl⟩ := intItems_at hv
  obtain ⟨h1, h2⟩ := argBest_lt (numAt xs) (xs.size - 1)
  refine q _ t _ ?_ (fun a ha => ?_) (H.keeps ⟨h', tk, rfl, hk⟩)
  · rw [hns, numAt_eq]; exact getD_mem (by rw [List.length_map, Array.length_toList]; omega)
  · rw [hns] at ha
    obtain ⟨j, hj, rfl⟩ := mem_getD ha
    rw [List.length_map, Array.length_toList] at hj
    rw [← numAt_eq]; exact h2 j (by omega)
theorem z_set {k x : Int} {u tx : Tok} {Q : Unit → Shared → Prop} (H : Hs g z M s) (t : Take (zR l ns) M M') (hl : ns.length ≤ 1000) (h0 : 0 ≤ k) (hk : k.toNat < ns.length) (q : ∀ s', Hs g z (zR l (ns.set k.toNat x) :: M') s' → Q () s') : W w A (setItem (.ref l) (.int k u) (.int x tx)) Q s := by
  obtain ⟨vs, n, hi, e⟩ := z_at H t
  have hlen := nm_len hi
  have hl' : s.heap.IsList l vs.toArray := ⟨_, e, rfl, n, rfl⟩
  have H1 : Hs g z (lR l vs :: M') s := (H.take t).put (h' := s.heap) (t := s.toks) (r := lR l vs) (fun _ f => f) (fun _ _ _ e => e) ⟨_, e, n, rfl⟩
  have hsl : sizeLine = 2 ^ 24 := rfl
  unfold setItem
  try with_reducible refine wpAny_holding ?_
  first | refine wpAny_bind (wpAny_pure ?_) | skip
  refine wpAny_bind (wpAny_sequenceKey hl'.typeIs (by decide) ?_)
  refine wpAny_bind (wpAny_callSpecial?_slot (name := Str.ofString "__setitem__") hl'.typeIs slot_list_setitem
    (wpAny_call_entry slot_list_setitem hl'.typeIs entry_list_setitem ?_ (args_list_setitem _ _ _)))
  show wpAny _ _ (Builtin.List.listSubscript? (.int k u) >>= _) _ _ s
  refine wpAny_bind (wpAny_listSubscript_int (fitsIndex_of h0 (by omega)) ?_)
  obtain ⟨j, rfl⟩ := Int.eq_ofNat_of_zero_le h0
  have hkj : ((j : Int)).toNat = j := rfl
  rw [hkj] at hk q
  have hx' : vs.toArray[j]? = some vs[j] := by rw [List.getElem?_toArray]; exact List.getElem?_eq_getElem (by omega)
  show wpAny _ _ ((seqItemAt l j >>= fun r => pure (r.map (j, ·))) >>= _) _ _ s
  refine wpAny_bind (wpAny_bind (wpAny_seqItemAt e rfl (wpAny_pure ?_)))
  rw [hx']
  show wpAny _ _ (setSeqItemAt l j (.int x tx) >>= _) _ _ s
  have H2 := put_seq (ws := vs.set j (.int x tx)) H1 Take.head (·.setIfInBounds j (.int x tx)) (by simp) s.toks
  have hi2 : IntsAre (vs.set j (.int x tx)) (ns.set j x) := ints_set hi j
  refine wpAny_bind (wpAny_setSeqItemAt e rfl ?_)
  first
    | exact wpAny_bind (wpAny_pure (wpAny_pure ⟨.none, rfl, wpAny_pure (q _ (H2.toz hi2))⟩))
    | exact wpAny_pure ⟨.none, rfl, wpAny_pure (q _ (H2.toz hi2))⟩
/-- range(n) -/
def rgR (I : Addr) (n i : Nat) : Res := cR I fun o => o = { cls := .type "range_iterator", data := .fields #[rawInt i, rawInt ((n : Int) - i), rawInt 1] }
theorem iter_rg (hh : A.handled = none) (I : Addr) (n : Nat) : Iter w A (.ref I) n (fun i v => ∃ t, v = .int i t) (rgR I n) (fun _ => True) where
  next := by
    rintro g z i M s Q hi _ H q
    obtain ⟨o, ho, rfl⟩ := H.get Take.head
    refine wpAny_pyNext_range_item (x := i) (left := (n : Int) - i) (step := 1) ho (by omega) fun h' hit hs => ?_
    refine q _ _ ⟨_, rfl⟩ (H.put (r := rgR I n (i + 1)) (t := s.toks + 1) (fun b f => f) (fun b o nf e => (hs.2 b nf).trans e) ⟨_, hit, ?_⟩)
    rw [show ((n : Int) - (i + 1 : Nat)) = (n : Int) - i - 1 by omega, show ((i + 1 : Nat) : Int) = (i : Int) + 1 by omega]
  done := by
    rintro g z M s Q _ H q
    obtain ⟨o, ho, rfl⟩ := H.get Take.head
    refine wpAny_pyNext_range_end (x := n) (left := (n : Int) - n) (step := 1) hh ho (by omega) fun h' hs => q _ (H.lose fun b o nf e => hs b o nf e)
  self := by
    rintro g z i M s Q H q
    obtain ⟨o, ho, rfl⟩ := H.get Take.head
    have hT : s.TypeIs (.ref I) "range_iterator" := ⟨_, ho, rfl⟩
    refine wpAny_pyIter_slot hT PySem.F.slot_range_iterator_iter (wpAny_call_entry PySem.F.slot_range_iterator_iter hT entry_rgi ?_ (PySem.F.args_range_iterator_iter_1 _))
    show wpAny _ _ (ret (.ref I)) _ _ s
    exact wpAny_pure ⟨_, rfl, "range_iterator", _, hT, PySem.F.slot_range_iterator_next.lookup, q⟩
  go := by
    rintro g z i M s t v Q ⟨u, rfl⟩ H q
    unfold letOwnedTupleGo
    split <;> exact wpAny_pure (q _ H)
def roR (r : Addr) (n : Nat) : Res := cR r fun o => ∃ t u v, o = { cls := .type "range", data := .fields #[.int 0 t, .int n u, .int 1 v] }
theorem r_call {n : Nat} {u : Tok} {Q : Value → Shared → Prop} (H : Hs g z M s) (q : ∀ r s', Hs g z (roR r n :: M) s' → Q (.ref r) s') : W w A (call (.type "range") [.int n u]) Q s :=
  call_range_1 (q _ _ (new_obj H ⟨_, _, _, rfl⟩ rfl (s.toks + 1 + 1)))
theorem r_iter {n : Nat} {r : Addr} {Q : Value → Shared → Prop} (H : Hs g z M s) (t : Take (roR r n) M M') (hn : n ≤ 1000) (q : ∀ I s', Hs g z (rgR I n 0 :: M) s' → Q (.ref I) s') : W w A (pyIter (.ref r)) Q s := by
  obtain ⟨o, ho, a, b, c, rfl⟩ := H.get t
  refine wpAny_pyIter_range (a := 0) (b := n) (c := 1) ho (small_one (by omega) (by omega) (by omega) (by omega)) ?_
  rw [rangeSize_one]
  refine q _ _ (new_obj H ?_ rfl s.toks)
  by_cases h : (0 : Int) < n
  · rw [if_pos h]; rfl
  · rw [if_neg h, show (n : Int) - ((0 : Nat) : Int) = 0 by omega]; rfl
theorem mul_ok {a b : Int} (h : a.natAbs < 2 ^ 40) : IntMulOk a b := IntMulOk.of_left (by
  unfold Builtin.Int.intBits
  split
  · omega
  · have : a.natAbs.log2 < 40 := (Nat.log2_lt (by simp_all)).mpr h
    omega)
end
end
section
/-- one turn of the method's loop -/
def lrStep (S cut : Int) (rems : List Int) (st : List Int × Bool) (i : Nat) : List Int × Bool :=
  if st.1.sum = S ∧ cut ≤ rems.getD i 0 then (st.1, true)
  else if st.1.sum < S ∧ cut ≤ rems.getD i 0 then (st.1.set i (st.1.getD i 0 + 1), st.2)
  else st
def lrSt (S cut : Int) (rems fl : List Int) : Nat → List Int × Bool
  | 0 => (fl, false)
  | i + 1 => lrStep S cut rems (lrSt S cut rems fl i) i
def flL (vts : List Int) (S : Int) : List Int := vts.map fun v => (v * S).fdiv vts.sum
def remL (vts : List Int) (S : Int) : List Int := vts.map fun v => v * S - (v * S).fdiv vts.sum * vts.sum
def cutL (vts : List Int) (S : Int) : Int := ((remL vts S).mergeSort (fun a b => decide (a ≤ b))).getD ((flL vts S).sum - S + vts.length).toNat 0
def lrTold (vts : List Int) (S : Int) : List Int × Bool := if (flL vts S).sum < S then lrSt S (cutL vts S) (remL vts S) (flL vts S) vts.length else (flL vts S, false)
structure Votes (vts : List Int) (S : Int) : Prop where
  l2 : 2 ≤ vts.length
  l4 : vts.length ≤ 4
  v1 : ∀ v ∈ vts, 1 ≤ v ∧ v ≤ 60
  s1 : 1 ≤ S ∧ S ≤ 6
theorem Votes.tot {vts : List Int} {S : Int} (h : Votes vts S) : 1 ≤ vts.sum ∧ vts.sum ≤ 240 ∧ ∀ v ∈ vts, v < vts.sum := by
  have go : ∀ (l : List Int), (∀ v ∈ l, 1 ≤ v ∧ v ≤ 60) → (l.length : Int) ≤ l.sum ∧ l.sum ≤ 60 * l.length ∧ ∀ v ∈ l, v + l.length ≤ l.sum + 1 := by
    intro l
    induction l with
    | nil => intro _; simp
    | cons a r ih =>
      intro hl
      obtain ⟨h1, h2, h3⟩ := ih fun v hv => hl v (List.mem_cons_of_mem _ hv)
      have ha := hl a List.mem_cons_self
      rw [List.sum_cons, List.length_cons]
      refine ⟨by omega, by omega, fun v hv => ?_⟩
      rcases List.mem_cons.mp hv with rfl | hv
      · omega
      · have := h3 v hv; omega
  obtain ⟨h1, h2, h3⟩ := go vts h.v1
  have := h.l2
  have := h.l4
  exact ⟨by omega, by omega, fun v hv => by have := h3 v hv; omega⟩
theorem Votes.div {vts : List Int} {S : Int} (h : Votes vts S) {v : Int} (hv : v ∈ vts) : 0 ≤ (v * S).fdiv vts.sum ∧ (v * S).fdiv vts.sum < S ∧ 0 ≤ v * S - (v * S).fdiv vts.sum * vts.sum ∧ v * S - (v * S).fdiv vts.sum * vts.sum < vts.sum ∧ 0 < v * S ∧ v * S ≤ 360 := by
  obtain ⟨h1, h2, h3⟩ := h.tot
  have hv1 := h.v1 v hv
  have hs := h.s1
  have hlt := h3 v hv
  have hvS : 0 < v * S := Int.mul_pos (by omega) (by omega)
  have hvS2 : v * S ≤ 60 * 6 := Int.mul_le_mul hv1.2 hs.2 (by omega) (by omega)
  rw [Int.fdiv_eq_ediv_of_nonneg _ (by omega)]
  have e := Int.emod_add_mul_ediv (v * S) vts.sum
  have m0 := Int.emod_nonneg (v * S) (show vts.sum ≠ 0 by omega)
  have m1 := Int.emod_lt_of_pos (v * S) (show 0 < vts.sum by omega)
  rw [Int.mul_comm vts.sum (v * S / vts.sum)] at e
  refine ⟨Int.ediv_nonneg (by omega) (by omega), ?_, by omega, by omega, hvS, by omega⟩
  refine Int.ediv_lt_of_lt_mul (by omega) ?_
  rw [Int.mul_comm v S]
  exact Int.mul_lt_mul_of_pos_left hlt (by omega)
theorem rem_sum {vts : List Int} {S T : Int} : ∀ l : List Int, (l.map fun v => v * S - (v * S).fdiv T * T).sum = l.sum * S - (l.map fun v => (v * S).fdiv T).sum * T
  | [] => by simp
  | a :: r => by
    rw [List.map_cons, List.sum_cons, rem_sum (vts := vts) r, List.map_cons, List.sum_cons, List.sum_cons, Int.add_mul, Int.add_mul]; omega
theorem Votes.fl {vts : List Int} {S : Int} (h : Votes vts S) : (flL vts S).sum ≤ S ∧ S < (flL vts S).sum + vts.length ∧ (remL vts S).sum = (S - (flL vts S).sum) * vts.sum := by
  obtain ⟨h1, h2, h3⟩ := h.tot
  have hr : (remL vts S).sum = vts.sum * S - (flL vts S).sum * vts.sum := rem_sum (vts := vts) vts
  have hr' : (remL vts S).sum = (S - (flL vts S).sum) * vts.sum := by rw [hr, Int.sub_mul, Int.mul_comm vts.sum S]
  have hb : 0 ≤ (remL vts S).sum ∧ (remL vts S).sum ≤ (remL vts S).length * (vts.sum - 1) := sum_le_of fun k hk => by
    obtain ⟨v, hv, rfl⟩ := List.mem_map.mp hk
    have := h.div hv
    omega
  have hlen : (remL vts S).length = vts.length := by unfold remL; simp
  rw [hlen] at hb
  rw [hr'] at hb
  refine ⟨?_, ?_, hr'⟩
  · have := Int.nonneg_of_mul_nonneg_left hb.1 (by omega)
    omega
  · have h5 : (S - (flL vts S).sum) * vts.sum < vts.length * vts.sum := by
      refine Int.lt_of_le_of_lt hb.2 ?_
      exact Int.mul_lt_mul_of_pos_left (by omega) (by have := h.l2; omega)
    have := Int.lt_of_mul_lt_mul_right h5 (by omega)
    omega
theorem lr_keep {S cut : Int} {rems fl : List Int} (hf : ∀ k ∈ fl, 0 ≤ k ∧ k ≤ 10) (hs : fl.sum ≤ S) : ∀ i, (lrSt S cut rems fl i).1.length = fl.length ∧ (∀ k ∈ (lrSt S cut rems fl i).1, 0 ≤ k ∧ k ≤ 10 + i)
  | 0 => ⟨rfl, fun k hk => by have := hf k hk; simpa using this⟩
  | i + 1 => by
    obtain ⟨h1, h2⟩ := lr_keep (cut := cut) (rems := rems) hf hs i
    have hle : ∀ k ∈ (lrSt S cut rems fl i).1, 0 ≤ k ∧ k ≤ 10 + (i + 1 : Nat) := fun k hk => by have := h2 k hk; omega
    have hset : ∀ k ∈ (lrSt S cut rems fl i).1.set i ((lrSt S cut rems fl i).1.getD i 0 + 1), 0 ≤ k ∧ k ≤ 10 + (i + 1 : Nat) := fun k hk => by
      rcases List.mem_or_eq_of_mem_set hk with h | rfl
      · exact hle k h
      · by_cases hi : i < (lrSt S cut rems fl i).1.length
        · rw [List.getD_eq_getElem?_getD, List.getElem?_eq_getElem hi]
          have := h2 _ (List.getElem_mem hi)
          simp only [Option.getD_some]; omega
        · rw [List.getD_eq_getElem?_getD, List.getElem?_eq_none (by omega)]
          simp; omega
    unfold lrSt lrStep
    split
    · exact ⟨h1, hle⟩
    · split
      · exact ⟨by rw [List.length_set]; exact h1, hset⟩
      · exact ⟨h1, hle⟩
theorem srt_eq : ∀ {a b : List Int}, a.Perm b → a.Pairwise (· ≤ ·) → b.Pairwise (· ≤ ·) → a = b := by
  intro a b hp ha hb
  exact List.Perm.eq_of_pairwise (fun a b _ _ h1 h2 => Int.le_antisymm h1 h2) ha hb hp
theorem cut_of {vts ms : List Int} {S : Int} (hp : ms.Perm (remL vts S)) (hs : ms.Pairwise (· ≤ ·)) : ms = (remL vts S).mergeSort (fun a b => decide (a ≤ b)) := by
  refine srt_eq (hp.trans (List.mergeSort_perm _ _).symm) hs ?_
  have := List.pairwise_mergeSort (le := fun a b : Int => decide (a ≤ b)) (fun a b c h1 h2 => by simp at *; omega) (fun a b => by simp; omega) (remL vts S)
  exact this.imp fun h => by simpa using h
end
section
section
variable {w : World} {g : Heap} {z : Shared} {A : Around} {s : Shared} {M M' R : List Res} {env : Env}
theorem sub_lst {value slice : Expr} {pos : Pos} {Q : Value → Shared → Prop}
    (h : W w A (eval value env) (fun o s₁ => W w A (eval slice env) (fun i s₂ => ∃ a k u vs n, o = .ref a ∧ i = .int k u ∧ s₂.heap.get? a = some ⟨.type "list", none, .seq (vs : List Value).toArray n, #[]⟩ ∧ W w A (getItem o i) Q s₂) s₁) s)
    (he : ∀ o i, subscripted slice false o i = operate [o, i] (getItem o i) := by intro _ _; rfl) : W w A (eval (.Subscript value slice pos) env) Q s := by
  refine sub_any (wpAny_mono h (fun o s₁ h₁ => wpAny_mono h₁ (fun i s₂ h₂ => ?_) fun _ _ f => f) fun _ _ f => f) he
  obtain ⟨a, k, u, vs, n, rfl, rfl, e, q⟩ := h₂
  unfold getitemInPython
  exact wpAny_bind (wpAny_specialOf (T := "list") ⟨_, e, rfl⟩ PySem.F.slot_list_getitem.lookup (wpAny_pure ⟨rfl, q⟩))
theorem sub_z {value slice : Expr} {pos : Pos} {Q : Value → Shared → Prop}
    (h : W w A (eval value env) (fun o s₁ => W w A (eval slice env) (fun i s₂ => ∃ g z M M' a k u ns x, o = .ref a ∧ i = .int k u ∧ Hs g z M s₂ ∧ Take (zR a ns) M M' ∧ ns.length ≤ 1000 ∧ ((0 ≤ k ∧ ns[k.toNat]? = some x) ∨ (k < 0 ∧ -(ns.length : Int) ≤ k ∧ ns[(k + ns.length).toNat]? = some x)) ∧ ∀ t, Q (.int x t) s₂) s₁) s)
    (he : ∀ o i, subscripted slice false o i = operate [o, i] (getItem o i) := by intro _ _; rfl) : W w A (eval (.Subscript value slice pos) env) Q s := by
  refine sub_lst (wpAny_mono h (fun o s₁ h₁ => wpAny_mono h₁ (fun i s₂ h₂ => ?_) fun _ _ f => f) fun _ _ f => f) he
  obtain ⟨g, z, M, M', a, k, u, ns, x, rfl, rfl, H, t, hl, hx, q⟩ := h₂
  obtain ⟨vs, n, hi, e⟩ := z_at H t
  refine ⟨a, k, u, vs, n, rfl, rfl, e, ?_⟩
  rcases hx with ⟨h0, hx⟩ | ⟨h0, h1, hx⟩
  · exact z_item H t hl h0 hx q
  · exact z_item_neg H t hl h0 h1 hx q
theorem sub_l {value slice : Expr} {pos : Pos} {Q : Value → Shared → Prop}
    (h : W w A (eval value env) (fun o s₁ => W w A (eval slice env) (fun i s₂ => ∃ g z M M' a k u vs x, o = .ref a ∧ i = .int k u ∧ Hs g z M s₂ ∧ Take (lR a vs) M M' ∧ 0 ≤ k ∧ k < 2 ^ 62 ∧ vs[k.toNat]? = some x ∧ Q x s₂) s₁) s)
    (he : ∀ o i, subscripted slice false o i = operate [o, i] (getItem o i) := by intro _ _; rfl) : W w A (eval (.Subscript value slice pos) env) Q s := by
  refine sub_lst (wpAny_mono h (fun o s₁ h₁ => wpAny_mono h₁ (fun i s₂ h₂ => ?_) fun _ _ f => f) fun _ _ f => f) he
  obtain ⟨g, z, M, M', a, k, u, vs, x, rfl, rfl, H, t, h0, h1, hx, q⟩ := h₂
  obtain ⟨n, e⟩ := qR_at H t
  exact ⟨a, k, u, vs, n, rfl, rfl, e, wpAny_getItem_list (items := vs.toArray) ⟨_, e, rfl, n, rfl⟩ h0 (by omega) (by simpa using hx) q⟩
theorem div_ {a b : Int} {t u : Tok} {Q : Value → Shared → Prop} (H : Hs g z M s) (h0 : 0 < b) (hb : b < 1000000) (q : ∀ t s', Hs g z M s' → Q (.int (a.fdiv b) t) s') : W w A (binaryOp .FloorDiv (.int a t) (.int b u)) Q s :=
  PyProof.Rows.floordiv_int (by omega) (q _ _ (H.tok _)) (Or.inl (PyProof.noPylong_small (by omega)))
/-- the method's body, up to what it does with ties -/
theorem lr_body {L vA : Addr} {vts : List Int} {S : Int} {ts : Tok} {ta : Bool} {Q : Flow → Shared → Prop} {E : Value → Shared → Prop} (hV : Votes vts S) (hA : Ok 10 A) (B : Base w g)
    (H : Hs g z (frR L (cellsOf w 55 L) [("votes", some (.ref vA)), ("seats", some (.int S ts)), ("tiesallowed", some (.bool ta)), ("quotas", none), ("representatives", none), ("ties", none), ("remainders", none), ("cutoff", none), ("i", none), ("reps_sum", none)] :: zR vA vts :: R) s)
    (cont : ∀ last, (bodyOf w 55).drop 5 = last → ∀ rA qo mo co io ro s', Hs g z (frR L (cellsOf w 55 L) [("votes", some (.ref vA)), ("seats", some (.int S ts)), ("tiesallowed", some (.bool ta)), ("quotas", qo), ("representatives", some (.ref rA)), ("ties", some (.bool (lrTold vts S).2)), ("remainders", mo), ("cutoff", co), ("i", io), ("reps_sum", ro)] :: zR rA (lrTold vts S).1 :: zR vA vts :: R) s' → wpAny (model pr w) A (execs last (callEnvC (fdOf w 55) L 55)) Q E s') :
    wpAny (model pr w) A (execs (bodyOf w 55) (callEnvC (fdOf w 55) L 55)) Q E s := by
  obtain ⟨hT1, hT2, hT3⟩ := hV.tot
  obtain ⟨hF1, hF2, hF3⟩ := hV.fl
  have hl2 := hV.l2
  have hl4 := hV.l4
  have hs1 := hV.s1
  have hsl : sizeLine = 2 ^ 24 := rfl
  have hsm : Small vts := ⟨by omega, fun k hk => by have := hV.v1 k hk; omega⟩
  have hfl : (flL vts S).length = vts.length := by unfold flL; simp
  have hrl : (remL vts S).length = vts.length := by unfold remL; simp
  have hfk : ∀ k ∈ flL vts S, 0 ≤ k ∧ k ≤ 10 := fun k hk => by
    obtain ⟨v, hv, rfl⟩ := List.mem_map.mp hk
    have := hV.div hv; omega
  have hfs : Small (flL vts S) := ⟨by omega, fun k hk => by have := hfk k hk; omega⟩
  with_unfolding_all refine wpAny_execs_cons (W.any ?_)
  refine wpAny_If (wpAny_isTrue_Compare1 ?_)
  refine nmC (L := L) (by assumption) (by walk_at "m_take") (by walk_at "m_mem") ?_
  refine con_ H fun t1 s1 H => ?_
  refine PySem.P.eq_int (wpAny_truthy_bool ?_)
  rw [if_neg (by simp; omega)]
  refine wpAny_execs_nil ?_
  refine wpAny_execs_cons (W.any ?_)
  refine wpAny_Assign_Name ?_ (by kernel_rfl)
  refine comp_ ["p"] ?_
  refine nmC (L := L) (by assumption) (by walk_at "m_take") (by walk_at "m_mem") ?_
  refine z_iter H (by walk_at "m_take") fun I s2 H => ?_
  refine ⟨g, z, vts.length, _, _, _, fun i ys M => ∃ l : List (Addr × List Value), l.length = i ∧ (∀ (j : Nat) p, l[j]? = some p → ∃ t1 t2 v, vts[j]? = some v ∧ p.2 = [.int (v * S) t1, .int vts.sum t2]) ∧ ys = l.map (fun q => .ref q.1) ∧ M = tupsR l :: frR L (cellsOf w 55 L) [("votes", some (.ref vA)), ("seats", some (.int S ts)), ("tiesallowed", some (.bool ta)), ("quotas", none), ("representatives", none), ("ties", none), ("remainders", none), ("cutoff", none), ("i", none), ("reps_sum", none)] :: zR vA vts :: R, _, iter_z hA.hd I vA vts,
    ⟨[], rfl, fun j p e => (by simp at e), rfl, rfl⟩, (tups_nil H).sub (by walk_at "m_sub"), by omega, ?_, ?_, ?_, ?_⟩
  · rintro i ys M s ⟨l, _, _, _, rfl⟩ H; exact has_z (l := vA) H (by walk_at "m_take")
  · rintro i ys M ⟨l, e, _, rfl, rfl⟩; simp [e]
  · rintro C D l0 i ys M v s hl hi ⟨l, hll, hsh, rfl, rfl⟩ ⟨k, t, hk, rfl⟩ H
    obtain ⟨o0, rfl⟩ := one_name hl
    have hkm := List.mem_of_getElem? hk
    have hkv := hV.v1 k hkm
    refine wpAny_assign_Name ?_
    refine stL H (by walk_at "m_take") (by walk_at "m_upl") fun s2 H => ?_
    refine wpAny_tests_nil ?_
    rw [if_pos rfl]
    refine tuple_ (k := 0) ?_
    refine wpAny_items_cons ?_
    refine wpAny_BinOp ?_
    refine Call_Name1 ?_
    refine nmB (v := .type "int") B H ?_
    refine PyProof.Rows.callWith_type rfl (evalArgs1 ?_)
    refine nmL (by assumption) (by walk_at "m_take") (by walk_at "m_mem") ?_
    refine call_int_int ?_
    refine nmC (L := L) (by assumption) (by walk_at "m_take") (by walk_at "m_mem") ?_
    refine mul_ H (mul_ok (by omega)) fun t3 s3 H => ?_
    refine wpAny_items_cons ?_
    refine Call_Name1 ?_
    refine nmB (v := .type "int") B H ?_
    refine PyProof.Rows.callWith_type rfl (evalArgs1 ?_)
    refine Call_Name1 ?_
    refine nmB (v := .builtin "sum") B H ?_
    refine cw1 ?_
    refine nmC (L := L) (by assumption) (by walk_at "m_take") (by walk_at "m_mem") ?_
    refine z_sum hA.hd H (show Take (zR vA vts) _ _ from (by walk_at "m_take")) hsm fun t4 s4 H => ?_
    refine call_int_int ?_
    refine wpAny_items_nil ?_
    refine ⟨g, z, _, H, by simp; omega, fun a s8 H => ?_⟩
    refine ⟨[("p", some (.int k t))], _, rfl, ⟨l ++ [(a, [.int (k * S) t3, .int vts.sum t4])], by simp [hll], fun j p e => ?_, by simp, rfl⟩, ?_⟩
    · rcases Nat.lt_or_ge j l.length with h | h
      · rw [List.getElem?_append_left h] at e; exact hsh j p e
      · rw [List.getElem?_append_right h] at e
        have hj : j - l.length = 0 := by
          have := (List.getElem?_eq_some_iff.mp e).1
          simp at this; omega
        rw [hj] at e
        cases e
        exact ⟨t3, t4, k, by rw [show j = i by omega]; exact hk, rfl⟩
    · have H := tups_add (a := a) (l := l) (vs := [.int (k * S) t3, .int vts.sum t4]) H (by walk_at "m_pick")
      exact H.sub (by walk_at "m_sub")
  rintro qA ys M s ⟨l, hll, hsh, rfl, rfl⟩ H
  refine stC (L := L) H (by walk_at "m_take") (by walk_at "m_upl") fun s9 H => ?_
  show wpAny _ _ _ _ _ _
  refine wpAny_execs_cons (W.any ?_)
  refine wpAny_Assign_Name ?_ (by kernel_rfl)
  refine comp_ ["qu"] ?_
  refine nmC (L := L) (by assumption) (by walk_at "m_take") (by walk_at "m_mem") ?_
  refine l_iter H (show Take (lR qA (l.map fun q => .ref q.1)) _ _ from (by walk_at "m_take")) fun I s11 H => ?_
  refine ⟨g, z, (l.map fun q => Value.ref q.1).length, _, _, _, fun i ys M => IntsAre ys ((flL vts S).take i) ∧ M = frR L (cellsOf w 55 L) [("votes", some (.ref vA)), ("seats", some (.int S ts)), ("tiesallowed", some (.bool ta)), ("quotas", some (.ref qA)), ("representatives", none), ("ties", none), ("remainders", none), ("cutoff", none), ("i", none), ("reps_sum", none)] :: lR qA (l.map fun q => .ref q.1) :: tupsR l :: zR vA vts :: R, _, iter_list hA.hd I qA _,
    ⟨.nil, rfl⟩, H.sub (by walk_at "m_sub"), by simp; omega, ?_, ?_, ?_, ?_⟩
  · rintro i ys M s ⟨_, rfl⟩ H; exact has_seq (a := qA) H (by walk_at "m_take")
  · rintro i ys M ⟨h, rfl⟩; rw [nm_len h, List.length_take]; omega
  · rintro C D l0 i ys M v s hl hi ⟨hys, rfl⟩ hv H
    obtain ⟨o0, rfl⟩ := one_name hl
    rw [List.getElem?_map] at hv
    obtain ⟨r, hr, rfl⟩ := Option.map_eq_some_iff.mp hv
    obtain ⟨u1, u2, v, hvi, hr2⟩ := hsh i r hr
    have hrm := List.mem_of_getElem? hr
    have hvm := List.mem_of_getElem? hvi
    refine wpAny_assign_Name ?_
    refine stL H (by walk_at "m_take") (by walk_at "m_upl") fun s12 H => ?_
    refine wpAny_tests_nil ?_
    rw [if_pos rfl]
    refine wpAny_BinOp ?_
    refine tup_item ?_
    refine nmL (by assumption) (by walk_at "m_take") (by walk_at "m_mem") ?_
    refine con_ H fun t13 s13 H => ?_
    obtain ⟨n13, e13⟩ := tup_at H (show Take (tupsR l) _ _ from (by walk_at "m_take")) hrm
    rw [hr2] at e13
    refine ⟨r.1, 0, t13, _, n13, 0, .int (v * S) u1, rfl, rfl, e13, by decide, by decide, by kernel_rfl, rfl, ?_⟩
    refine tup_item ?_
    refine nmL (by assumption) (by walk_at "m_take") (by walk_at "m_mem") ?_
    refine con_ H fun t14 s14 H => ?_
    obtain ⟨n14, e14⟩ := tup_at H (show Take (tupsR l) _ _ from (by walk_at "m_take")) hrm
    rw [hr2] at e14
    refine ⟨r.1, 1, t14, _, n14, 1, .int vts.sum u2, rfl, rfl, e14, by decide, by decide, by kernel_rfl, rfl, ?_⟩
    refine div_ H (by omega) (by omega) fun t15 s15 H => ?_
    have hfi : (flL vts S)[i]? = some ((v * S).fdiv vts.sum) := by unfold flL; rw [List.getElem?_map, hvi]; rfl
    refine ⟨[("qu", some (.ref r.1))], _, rfl, ⟨?_, rfl⟩, H⟩
    rw [List.take_add_one, hfi]
    exact ints_snoc hys
  rintro rA ys M s ⟨hys, rfl⟩ H
  rw [List.take_of_length_le (by simp; omega)] at hys
  have H := H.toz hys
  refine stC (L := L) H (by walk_at "m_take") (by walk_at "m_upl") fun s16 H => ?_
  show wpAny _ _ _ _ _ _
  refine wpAny_execs_cons (W.any ?_)
  refine wpAny_Assign_Name ?_ (by kernel_rfl)
  refine wpAny_Constant_bool ?_
  refine stL (L := L) H (by walk_at "m_take") (by walk_at "m_upl") fun s18 H => ?_
  show wpAny _ _ _ _ _ _
  refine wpAny_execs_cons (W.any ?_)
  refine wpAny_mono (Q := fun f s => f = .next ∧ ∃ rA mo co io ro, Hs g z (frR L (cellsOf w 55 L) [("votes", some (.ref vA)), ("seats", some (.int S ts)), ("tiesallowed", some (.bool ta)), ("quotas", some (.ref qA)), ("representatives", some (.ref rA)), ("ties", some (.bool (lrTold vts S).2)), ("remainders", mo), ("cutoff", co), ("i", io), ("reps_sum", ro)] :: zR rA (lrTold vts S).1 :: zR vA vts :: R) s) ?_ (fun f s h => ?_) fun _ _ f => f
  · refine wpAny_If (wpAny_isTrue_Compare1 ?_)
    refine Call_Name1 ?_
    refine nmB (v := .builtin "sum") B H ?_
    refine cw1 ?_
    refine nmC (L := L) (by assumption) (by walk_at "m_take") (by walk_at "m_mem") ?_
    refine z_sum hA.hd H (show Take (zR rA (flL vts S)) _ _ from (by walk_at "m_take")) hfs fun t4 s4 H => ?_
    refine nmC (L := L) (by assumption) (by walk_at "m_take") (by walk_at "m_mem") ?_
    refine PySem.P.lt_int (wpAny_truthy_bool ?_)
    by_cases hlt : (flL vts S).sum < S
    case neg =>
      rw [if_neg (by simpa using hlt)]
      refine wpAny_execs_nil ?_
      have e : lrTold vts S = (flL vts S, false) := by unfold lrTold; rw [if_neg hlt]
      refine ⟨rfl, rA, none, none, none, none, ?_⟩
      rw [e]
      exact H.sub (by walk_at "m_sub")
    have htold : lrTold vts S = lrSt S (cutL vts S) (remL vts S) (flL vts S) vts.length := by unfold lrTold; rw [if_pos hlt]
    rw [if_pos (by simpa using hlt)]
    refine wpAny_execs_cons ?_
    refine asg_comp_ ["i"] ?_
    refine Call_Name1 ?_
    refine nmB (v := .type "range") B H ?_
    refine PyProof.Rows.callWith_type rfl (evalArgs1 ?_)
    refine Call_Name1 ?_
    refine nmB (v := .builtin "len") B H ?_
    refine cw1 ?_
    refine nmC (L := L) (by assumption) (by walk_at "m_take") (by walk_at "m_mem") ?_
    refine z_len H (show Take (zR vA vts) _ _ from (by walk_at "m_take")) (by omega) fun t5 s5 H => ?_
    refine r_call H fun r s6 H => ?_
    refine r_iter H Take.head (by omega) fun I s7 H => ?_
    refine ⟨g, z, vts.length, _, _, _, fun i ys M => IntsAre ys ((remL vts S).take i) ∧ M = frR L (cellsOf w 55 L) [("votes", some (.ref vA)), ("seats", some (.int S ts)), ("tiesallowed", some (.bool ta)), ("quotas", some (.ref qA)), ("representatives", some (.ref rA)), ("ties", some (.bool false)), ("remainders", none), ("cutoff", none), ("i", none), ("reps_sum", none)] :: zR rA (flL vts S) :: lR qA (l.map fun q => .ref q.1) :: tupsR l :: zR vA vts :: R, _, iter_rg hA.hd I vts.length,
      ⟨.nil, rfl⟩, H.sub (by walk_at "m_sub"), by omega, ?_, ?_, ?_, ?_⟩
    · intros; trivial
    · rintro i ys M ⟨h, rfl⟩; rw [nm_len h, List.length_take]; omega
    · rintro C D l0 i ys M v s hl hi ⟨hys, rfl⟩ ⟨t, rfl⟩ H
      obtain ⟨o0, rfl⟩ := one_name hl
      obtain ⟨r, hr⟩ : ∃ r, l[i]? = some r := ⟨l[i], List.getElem?_eq_getElem (by omega)⟩
      obtain ⟨u1, u2, v, hvi, hr2⟩ := hsh i r hr
      have hrm := List.mem_of_getElem? hr
      have hvm := List.mem_of_getElem? hvi
      have hdv := hV.div hvm
      have hrr : (l.map fun q => Value.ref q.1)[((i : Int)).toNat]? = some (.ref r.1) := by rw [Int.toNat_natCast, List.getElem?_map, hr]; rfl
      have hfi : (flL vts S)[i]? = some ((v * S).fdiv vts.sum) := by unfold flL; rw [List.getElem?_map, hvi]; rfl
      have hri : (remL vts S)[i]? = some (v * S - (v * S).fdiv vts.sum * vts.sum) := by unfold remL; rw [List.getElem?_map, hvi]; rfl
      refine wpAny_assign_Name ?_
      refine stL H (by walk_at "m_take") (by walk_at "m_upl") fun s12 H => ?_
      refine wpAny_tests_nil ?_
      rw [if_pos rfl]
      refine wpAny_BinOp ?_
      refine tup_item ?_
      refine sub_l ?_
      refine nmC (L := L) (by assumption) (by walk_at "m_take") (by walk_at "m_mem") ?_
      refine nmL (by assumption) (by walk_at "m_take") (by walk_at "m_mem") ?_
      refine ⟨g, z, _, _, qA, i, t, _, _, rfl, rfl, H, (show Take (lR qA (l.map fun q => .ref q.1)) _ _ from (by walk_at "m_take")), by omega, by omega, hrr, ?_⟩
      refine con_ H fun t13 s13 H => ?_
      obtain ⟨n13, e13⟩ := tup_at H (show Take (tupsR l) _ _ from (by walk_at "m_take")) hrm
      rw [hr2] at e13
      refine ⟨r.1, 0, t13, _, n13, 0, .int (v * S) u1, rfl, rfl, e13, by decide, by decide, by kernel_rfl, rfl, ?_⟩
      refine wpAny_BinOp ?_
      refine sub_z ?_
      refine nmC (L := L) (by assumption) (by walk_at "m_take") (by walk_at "m_mem") ?_
      refine nmL (by assumption) (by walk_at "m_take") (by walk_at "m_mem") ?_
      refine ⟨g, z, _, _, rA, i, t, _, (v * S).fdiv vts.sum, rfl, rfl, H, (show Take (zR rA (flL vts S)) _ _ from (by walk_at "m_take")), by omega, .inl ⟨by omega, by rw [Int.toNat_natCast]; exact hfi⟩, fun t14 => ?_⟩
      refine tup_item ?_
      refine sub_l ?_
      refine nmC (L := L) (by assumption) (by walk_at "m_take") (by walk_at "m_mem") ?_
      refine nmL (by assumption) (by walk_at "m_take") (by walk_at "m_mem") ?_
      refine ⟨g, z, _, _, qA, i, t, _, _, rfl, rfl, H, (show Take (lR qA (l.map fun q => .ref q.1)) _ _ from (by walk_at "m_take")), by omega, by omega, hrr, ?_⟩
      refine con_ H fun t15 s15 H => ?_
      obtain ⟨n15, e15⟩ := tup_at H (show Take (tupsR l) _ _ from (by walk_at "m_take")) hrm
      rw [hr2] at e15
      refine ⟨r.1, 1, t15, _, n15, 1, .int vts.sum u2, rfl, rfl, e15, by decide, by decide, by kernel_rfl, rfl, ?_⟩
      refine mul_ H (mul_ok (by omega)) fun t16 s16 H => ?_
      refine sub_ H fun t17 s17 H => ?_
      refine ⟨[("i", some (.int i t))], _, rfl, ⟨?_, rfl⟩, H⟩
      rw [List.take_add_one, hri]
      exact ints_snoc hys
    rintro C l0 mA ys M s ⟨hys, rfl⟩ H
    rw [List.take_of_length_le (by omega)] at hys
    have H : Hs g z (lR mA ys :: frR C [] l0 :: frR L (cellsOf w 55 L) [("votes", some (.ref vA)), ("seats", some (.int S ts)), ("tiesallowed", some (.bool ta)), ("quotas", some (.ref qA)), ("representatives", some (.ref rA)), ("ties", some (.bool false)), ("remainders", none), ("cutoff", none), ("i", none), ("reps_sum", none)] :: zR rA (flL vts S) :: zR vA vts :: R) s := H.sub (by walk_at "m_sub")
    have H := H.toz hys
    refine stL (L := L) H (by walk_at "m_take") (by walk_at "m_upl") fun s18 H => ?_
    refine ⟨_, H.sub (xs := frR C [] l0 :: _) (by walk_at "m_sub"), fun s19 H => ?_⟩
    show W _ _ _ _ _
    refine wpAny_execs_cons ?_
    refine wpAny_Assign_Name ?_ (by kernel_rfl)
    refine sub_z ?_
    refine Call_Name1 ?_
    refine nmB (v := .builtin "sorted") B H ?_
    refine cw1 ?_
    refine nmL (by assumption) (by walk_at "m_take") (by walk_at "m_mem") ?_
    refine z_sorted H (show Take (zR mA (remL vts S)) _ _ from (by walk_at "m_take")) (by omega) fun sA ms s20 hp hs H => ?_
    refine wpAny_BinOp ?_
    refine Call_Name1 ?_
    refine nmB (v := .builtin "sum") B H ?_
    refine cw1 ?_
    refine nmC (L := L) (by assumption) (by walk_at "m_take") (by walk_at "m_mem") ?_
    refine z_sum hA.hd H (show Take (zR rA (flL vts S)) _ _ from (by walk_at "m_take")) hfs fun t4 s4 H => ?_
    refine nmC (L := L) (by assumption) (by walk_at "m_take") (by walk_at "m_mem") ?_
    refine sub_ H fun t17 s17 H => ?_
    have hml : ms.length = vts.length := hp.length_eq.trans hrl
    have hcut : ms[((flL vts S).sum - S + ms.length).toNat]? = some (cutL vts S) := by
      have hi : ((flL vts S).sum - S + ms.length).toNat < ms.length := by omega
      rw [List.getElem?_eq_getElem hi]
      unfold cutL
      rw [← cut_of hp hs, List.getD_eq_getElem?_getD, ← hml, List.getElem?_eq_getElem hi]
      rfl
    refine ⟨g, z, _, _, sA, _, t17, ms, cutL vts S, rfl, rfl, H, (show Take (zR sA ms) _ _ from (by walk_at "m_take")), by omega, .inr ⟨by omega, by omega, hcut⟩, fun tc => ?_⟩
    refine stL (L := L) H (by walk_at "m_take") (by walk_at "m_upl") fun s20 H => ?_
    show W _ _ _ _ _
    refine wpAny_execs_cons ?_
    refine for_ ?_
    refine Call_Name1 ?_
    refine nmB (v := .type "range") B H ?_
    refine PyProof.Rows.callWith_type rfl (evalArgs1 ?_)
    refine Call_Name1 ?_
    refine nmB (v := .builtin "len") B H ?_
    refine cw1 ?_
    refine nmC (L := L) (by assumption) (by walk_at "m_take") (by walk_at "m_mem") ?_
    refine z_len H (show Take (zR vA vts) _ _ from (by walk_at "m_take")) (by omega) fun t5 s5 H => ?_
    refine r_call H fun r s6 H => ?_
    refine r_iter H Take.head (by omega) fun I s7 H => ?_
    refine ⟨g, z, vts.length, _, _, _, fun i M => ∃ io ro, M = frR L (cellsOf w 55 L) [("votes", some (.ref vA)), ("seats", some (.int S ts)), ("tiesallowed", some (.bool ta)), ("quotas", some (.ref qA)), ("representatives", some (.ref rA)), ("ties", some (.bool (lrSt S (cutL vts S) (remL vts S) (flL vts S) i).2)), ("remainders", some (.ref mA)), ("cutoff", some (.int (cutL vts S) tc)), ("i", io), ("reps_sum", ro)] :: zR rA (lrSt S (cutL vts S) (remL vts S) (flL vts S) i).1 :: zR mA (remL vts S) :: zR vA vts :: R, _, iter_rg hA.hd I vts.length, ⟨none, none, rfl⟩, (show Hs g z (rgR I vts.length 0 :: frR L (cellsOf w 55 L) [("votes", some (.ref vA)), ("seats", some (.int S ts)), ("tiesallowed", some (.bool ta)), ("quotas", some (.ref qA)), ("representatives", some (.ref rA)), ("ties", some (.bool false)), ("remainders", some (.ref mA)), ("cutoff", some (.int (cutL vts S) tc)), ("i", none), ("reps_sum", none)] :: zR rA (flL vts S) :: zR mA (remL vts S) :: zR vA vts :: R) _ from H.sub (by walk_at "m_sub")), ?_, ?_, ?_⟩
    · intros; trivial
    · rintro i M v s hi ⟨io, ro, rfl⟩ ⟨ti, rfl⟩ H
      obtain ⟨hk1, hk2⟩ := lr_keep (cut := cutL vts S) (rems := remL vts S) hfk hF1 i
      generalize hst : lrSt S (cutL vts S) (remL vts S) (flL vts S) i = st at H hk1 hk2
      have hsts : Small st.1 := ⟨by omega, fun k hk => by have := hk2 k hk; omega⟩
      have hgx : st.1[((i : Int)).toNat]? = some (st.1.getD i 0) := by rw [Int.toNat_natCast, List.getD_eq_getElem?_getD, List.getElem?_eq_getElem (by omega)]; rfl
      have hrx : (remL vts S)[((i : Int)).toNat]? = some ((remL vts S).getD i 0) := by rw [Int.toNat_natCast, List.getD_eq_getElem?_getD, List.getElem?_eq_getElem (by omega)]; rfl
      generalize hx : (remL vts S).getD i 0 = x at hrx
      refine wpAny_assign_Name ?_
      refine stL (L := L) H (by walk_at "m_take") (by walk_at "m_upl") fun s20 H => ?_
      refine wpAny_execs_cons ?_
      refine wpAny_Assign_Name ?_ (by kernel_rfl)
      refine Call_Name1 ?_
      refine nmB (v := .builtin "sum") B H ?_
      refine cw1 ?_
      refine nmC (L := L) (by assumption) (by walk_at "m_take") (by walk_at "m_mem") ?_
      refine z_sum hA.hd H (show Take (zR rA st.1) _ _ from (by walk_at "m_take")) hsts fun t21 s21 H => ?_
      refine stL (L := L) H (by walk_at "m_take") (by walk_at "m_upl") fun s22 H => ?_
      show W _ _ _ _ _
      refine wpAny_execs_cons ?_
      refine wpAny_If (isTrue_and (wpAny_isTrue_Compare1 ?_))
      refine nmL (by assumption) (by walk_at "m_take") (by walk_at "m_mem") ?_
      refine nmC (L := L) (by assumption) (by walk_at "m_take") (by walk_at "m_mem") ?_
      refine PySem.P.eq_int (wpAny_truthy_bool ?_)
      by_cases hE : st.1.sum = S
      · rw [if_pos (by simpa using hE)]
        refine isTrue_and (wpAny_isTrue_Compare1 ?_)
        refine sub_z ?_
        refine nmL (by assumption) (by walk_at "m_take") (by walk_at "m_mem") ?_
        refine nmL (by assumption) (by walk_at "m_take") (by walk_at "m_mem") ?_
        refine ⟨g, z, _, _, mA, i, ti, _, x, rfl, rfl, H, (show Take (zR mA (remL vts S)) _ _ from (by walk_at "m_take")), by omega, .inl ⟨by omega, hrx⟩, fun t23 => ?_⟩
        refine nmL (by assumption) (by walk_at "m_take") (by walk_at "m_mem") ?_
        refine PySem.P.ge_int (wpAny_truthy_bool ?_)
        by_cases hG : cutL vts S ≤ x
        · rw [if_pos (by simpa using hG)]
          refine isTrue_and_nil ?_
          rw [if_pos rfl]
          refine wpAny_execs_cons ?_
          refine wpAny_If (isTrue_not (isTrue_plain ?_))
          refine nmL (by assumption) (by walk_at "m_take") (by walk_at "m_mem") ?_
          refine wpAny_truthy_bool ?_
          cases hb : st.2 with
          | false =>
            rw [if_pos (by rfl)]
            refine wpAny_execs_cons ?_
            refine wpAny_Assign_Name ?_ (by kernel_rfl)
            refine wpAny_Constant_bool ?_
            refine stL (L := L) H (by walk_at "m_take") (by walk_at "m_upl") fun s24 H => ?_
            show W _ _ _ _ _
            refine wpAny_execs_nil ?_
            show W _ _ _ _ _
            refine wpAny_execs_nil ?_
            show W _ _ _ _ _
            refine wpAny_execs_nil ?_
            refine ⟨_, ⟨some (.int i ti), some (.int st.1.sum t21), rfl⟩, ?_⟩
            rw [show lrSt S (cutL vts S) (remL vts S) (flL vts S) (i + 1) = lrStep S (cutL vts S) (remL vts S) st i from by rw [lrSt, hst]]
            rw [show lrStep S (cutL vts S) (remL vts S) st i = (st.1, true) from by unfold lrStep; rw [hx, if_pos ⟨hE, hG⟩]]
            exact H.sub (by walk_at "m_sub")
          | true =>
            rw [if_neg (by decide)]
            refine wpAny_execs_nil ?_
            show W _ _ _ _ _
            refine wpAny_execs_nil ?_
            show W _ _ _ _ _
            refine wpAny_execs_nil ?_
            refine ⟨_, ⟨some (.int i ti), some (.int st.1.sum t21), rfl⟩, ?_⟩
            rw [show lrSt S (cutL vts S) (remL vts S) (flL vts S) (i + 1) = lrStep S (cutL vts S) (remL vts S) st i from by rw [lrSt, hst]]
            rw [show lrStep S (cutL vts S) (remL vts S) st i = (st.1, true) from by unfold lrStep; rw [hx, if_pos ⟨hE, hG⟩]]
            rw [hb] at H
            exact H.sub (by walk_at "m_sub")
        · rw [if_neg (by simpa using hG), if_neg (by decide)]
          refine wpAny_execs_cons ?_
          refine wpAny_If (isTrue_and (wpAny_isTrue_Compare1 ?_))
          refine nmL (by assumption) (by walk_at "m_take") (by walk_at "m_mem") ?_
          refine nmC (L := L) (by assumption) (by walk_at "m_take") (by walk_at "m_mem") ?_
          refine PySem.P.lt_int (wpAny_truthy_bool ?_)
          rw [if_neg (by simp; omega), if_neg (by decide)]
          refine wpAny_execs_cons ?_
          refine wpAny_If (isTrue_and (wpAny_isTrue_Compare1 ?_))
          refine nmL (by assumption) (by walk_at "m_take") (by walk_at "m_mem") ?_
          refine nmC (L := L) (by assumption) (by walk_at "m_take") (by walk_at "m_mem") ?_
          refine PySem.P.lt_int (wpAny_truthy_bool ?_)
          rw [if_neg (by simp; omega), if_neg (by decide)]
          refine wpAny_execs_nil ?_
          show W _ _ _ _ _
          refine wpAny_execs_nil ?_
          show W _ _ _ _ _
          refine wpAny_execs_nil ?_
          show W _ _ _ _ _
          refine wpAny_execs_nil ?_
          refine ⟨_, ⟨some (.int i ti), some (.int st.1.sum t21), rfl⟩, ?_⟩
          rw [show lrSt S (cutL vts S) (remL vts S) (flL vts S) (i + 1) = lrStep S (cutL vts S) (remL vts S) st i from by rw [lrSt, hst]]
          rw [show lrStep S (cutL vts S) (remL vts S) st i = st from by unfold lrStep; rw [hx, if_neg (fun h => hG h.2), if_neg (fun h => hG h.2)]]
          exact H.sub (by walk_at "m_sub")
      · rw [if_neg (by simpa using hE), if_neg (by decide)]
        refine wpAny_execs_cons ?_
        refine wpAny_If (isTrue_and (wpAny_isTrue_Compare1 ?_))
        refine nmL (by assumption) (by walk_at "m_take") (by walk_at "m_mem") ?_
        refine nmC (L := L) (by assumption) (by walk_at "m_take") (by walk_at "m_mem") ?_
        refine PySem.P.lt_int (wpAny_truthy_bool ?_)
        by_cases hL : st.1.sum < S
        · rw [if_pos (by simpa using hL)]
          refine isTrue_and (wpAny_isTrue_Compare1 ?_)
          refine sub_z ?_
          refine nmL (by assumption) (by walk_at "m_take") (by walk_at "m_mem") ?_
          refine nmL (by assumption) (by walk_at "m_take") (by walk_at "m_mem") ?_
          refine ⟨g, z, _, _, mA, i, ti, _, x, rfl, rfl, H, (show Take (zR mA (remL vts S)) _ _ from (by walk_at "m_take")), by omega, .inl ⟨by omega, hrx⟩, fun t23 => ?_⟩
          refine nmL (by assumption) (by walk_at "m_take") (by walk_at "m_mem") ?_
          refine PySem.P.gt_int (wpAny_truthy_bool ?_)
          by_cases hG : cutL vts S < x
          · rw [if_pos (by simpa using hG)]
            refine isTrue_and_nil ?_
            rw [if_pos rfl]
            refine wpAny_execs_cons ?_
            refine wpAny_AugAssign_SubscriptAny ?_
            refine nmC (L := L) (by assumption) (by walk_at "m_take") (by walk_at "m_mem") ?_
            refine nmL (by assumption) (by walk_at "m_take") (by walk_at "m_mem") ?_
            refine z_item H (show Take (zR rA st.1) _ _ from (by walk_at "m_take")) (by omega) (by omega) hgx fun t30 => ?_
            refine con_ H fun t31 s31 H => ?_
            refine iadd_ H fun t32 s32 H => ?_
            refine z_set H (show Take (zR rA st.1) _ _ from (by walk_at "m_take")) (by omega) (by omega) (by rw [Int.toNat_natCast]; omega) fun s33 H => ?_
            rw [Int.toNat_natCast] at H
            show W _ _ _ _ _
            refine wpAny_execs_nil ?_
            show W _ _ _ _ _
            refine wpAny_execs_nil ?_
            show W _ _ _ _ _
            refine wpAny_execs_nil ?_
            refine ⟨_, ⟨some (.int i ti), some (.int st.1.sum t21), rfl⟩, ?_⟩
            rw [show lrSt S (cutL vts S) (remL vts S) (flL vts S) (i + 1) = lrStep S (cutL vts S) (remL vts S) st i from by rw [lrSt, hst]]
            rw [show lrStep S (cutL vts S) (remL vts S) st i = (st.1.set i (st.1.getD i 0 + 1), st.2) from by unfold lrStep; rw [hx, if_neg (fun h => hE h.1), if_pos ⟨hL, by omega⟩]]
            exact H.sub (by walk_at "m_sub")
          · rw [if_neg (by simpa using hG), if_neg (by decide)]
            refine wpAny_execs_cons ?_
            refine wpAny_If (isTrue_and (wpAny_isTrue_Compare1 ?_))
            refine nmL (by assumption) (by walk_at "m_take") (by walk_at "m_mem") ?_
            refine nmC (L := L) (by assumption) (by walk_at "m_take") (by walk_at "m_mem") ?_
            refine PySem.P.lt_int (wpAny_truthy_bool ?_)
            rw [if_pos (by simpa using hL)]
            refine isTrue_and (wpAny_isTrue_Compare1 ?_)
            refine sub_z ?_
            refine nmL (by assumption) (by walk_at "m_take") (by walk_at "m_mem") ?_
            refine nmL (by assumption) (by walk_at "m_take") (by walk_at "m_mem") ?_
            refine ⟨g, z, _, _, mA, i, ti, _, x, rfl, rfl, H, (show Take (zR mA (remL vts S)) _ _ from (by walk_at "m_take")), by omega, .inl ⟨by omega, hrx⟩, fun t23 => ?_⟩
            refine nmL (by assumption) (by walk_at "m_take") (by walk_at "m_mem") ?_
            refine PySem.P.eq_int (wpAny_truthy_bool ?_)
            by_cases hQ : x = cutL vts S
            · rw [if_pos (by simpa using hQ)]
              refine isTrue_and_nil ?_
              rw [if_pos rfl]
              refine wpAny_execs_cons ?_
              refine wpAny_AugAssign_SubscriptAny ?_
              refine nmC (L := L) (by assumption) (by walk_at "m_take") (by walk_at "m_mem") ?_
              refine nmL (by assumption) (by walk_at "m_take") (by walk_at "m_mem") ?_
              refine z_item H (show Take (zR rA st.1) _ _ from (by walk_at "m_take")) (by omega) (by omega) hgx fun t30 => ?_
              refine con_ H fun t31 s31 H => ?_
              refine iadd_ H fun t32 s32 H => ?_
              refine z_set H (show Take (zR rA st.1) _ _ from (by walk_at "m_take")) (by omega) (by omega) (by rw [Int.toNat_natCast]; omega) fun s33 H => ?_
              rw [Int.toNat_natCast] at H
              show W _ _ _ _ _
              refine wpAny_execs_nil ?_
              show W _ _ _ _ _
              refine wpAny_execs_nil ?_
              show W _ _ _ _ _
              refine wpAny_execs_nil ?_
              show W _ _ _ _ _
              refine wpAny_execs_nil ?_
              refine ⟨_, ⟨some (.int i ti), some (.int st.1.sum t21), rfl⟩, ?_⟩
              rw [show lrSt S (cutL vts S) (remL vts S) (flL vts S) (i + 1) = lrStep S (cutL vts S) (remL vts S) st i from by rw [lrSt, hst]]
              rw [show lrStep S (cutL vts S) (remL vts S) st i = (st.1.set i (st.1.getD i 0 + 1), st.2) from by unfold lrStep; rw [hx, if_neg (fun h => hE h.1), if_pos ⟨hL, by omega⟩]]
              exact H.sub (by walk_at "m_sub")
            · rw [if_neg (by simpa using hQ), if_neg (by decide)]
              refine wpAny_execs_nil ?_
              show W _ _ _ _ _
              refine wpAny_execs_nil ?_
              show W _ _ _ _ _
              refine wpAny_execs_nil ?_
              show W _ _ _ _ _
              refine wpAny_execs_nil ?_
              refine ⟨_, ⟨some (.int i ti), some (.int st.1.sum t21), rfl⟩, ?_⟩
              rw [show lrSt S (cutL vts S) (remL vts S) (flL vts S) (i + 1) = lrStep S (cutL vts S) (remL vts S) st i from by rw [lrSt, hst]]
              rw [show lrStep S (cutL vts S) (remL vts S) st i = st from by unfold lrStep; rw [hx, if_neg (fun h => hE h.1), if_neg (fun h => by omega)]]
              exact H.sub (by walk_at "m_sub")
        · rw [if_neg (by simpa using hL), if_neg (by decide)]
          refine wpAny_execs_cons ?_
          refine wpAny_If (isTrue_and (wpAny_isTrue_Compare1 ?_))
          refine nmL (by assumption) (by walk_at "m_take") (by walk_at "m_mem") ?_
          refine nmC (L := L) (by assumption) (by walk_at "m_take") (by walk_at "m_mem") ?_
          refine PySem.P.lt_int (wpAny_truthy_bool ?_)
          rw [if_neg (by simpa using hL), if_neg (by decide)]
          refine wpAny_execs_nil ?_
          show W _ _ _ _ _
          refine wpAny_execs_nil ?_
          show W _ _ _ _ _
          refine wpAny_execs_nil ?_
          show W _ _ _ _ _
          refine wpAny_execs_nil ?_
          refine ⟨_, ⟨some (.int i ti), some (.int st.1.sum t21), rfl⟩, ?_⟩
          rw [show lrSt S (cutL vts S) (remL vts S) (flL vts S) (i + 1) = lrStep S (cutL vts S) (remL vts S) st i from by rw [lrSt, hst]]
          rw [show lrStep S (cutL vts S) (remL vts S) st i = st from by unfold lrStep; rw [hx, if_neg (fun h => hE h.1), if_neg (fun h => hL h.1)]]
          exact H.sub (by walk_at "m_sub")
    · rintro M s ⟨io, ro, rfl⟩ H
      refine wpAny_execs_nil ?_
      show W _ _ _ _ _
      refine wpAny_execs_nil ?_
      refine ⟨rfl, rA, some (.ref mA), some (.int (cutL vts S) tc), io, ro, ?_⟩
      rw [htold]
      exact H.sub (by walk_at "m_sub")
  obtain ⟨rfl, rA, mo, co, io, ro, H⟩ := h
  exact cont _ (by kernel_rfl) rA (some (.ref qA)) mo co io ro s H
end
end
section
section
variable {w : World} {g : Heap} {z : Shared} {A : Around} {s : Shared} {M M' R : List Res} {env : Env}
theorem fn_lr {vA : Addr} {vts : List Int} {S : Int} {ts : Tok} {ta : Bool} {args : List Value} {Q : Value → Shared → Prop} (hV : Votes vts S) (hA : Ok 12 A) (B : Base w g) (H : Hs g z M s) (t : Take (zR vA vts) M R) (hno : (lrTold vts S).2 = true → ta = true)
    (hb : BindsTo s (fdOf w 55) ⟨args, []⟩ [("votes", .ref vA), ("seats", .int S ts), ("tiesallowed", .bool ta)])
    (q : ∀ r s', Hs g z (zR r (lrTold vts S).1 :: zR vA vts :: R) s' → Q (.ref r) s') : W w A (call (.ref 55) args) Q s := by
  refine call_fn (k := 11) (l := [("votes", some (.ref vA)), ("seats", some (.int S ts)), ("tiesallowed", some (.bool ta)), ("quotas", none), ("representatives", none), ("ties", none), ("remainders", none), ("cutoff", none), ("i", none), ("reps_sum", none)]) hA B (H.take t) hb ?_
  intro L s' H hA'
  refine lr_body (L := L) hV (hA'.le (by omega)) B H fun last hlast rA qo mo co io ro s1 H => ?_
  rw [← hlast]
  with_unfolding_all refine wpAny_execs_cons ?_
  refine wpAny_If (wpAny_mono (Q := fun b s => b = false ∧ Hs g z (frR L (cellsOf w 55 L) [("votes", some (.ref vA)), ("seats", some (.int S ts)), ("tiesallowed", some (.bool ta)), ("quotas", qo), ("representatives", some (.ref rA)), ("ties", some (.bool (lrTold vts S).2)), ("remainders", mo), ("cutoff", co), ("i", io), ("reps_sum", ro)] :: zR rA (lrTold vts S).1 :: zR vA vts :: R) s) ?_ (fun b s h => ?_) fun _ _ f => f)
  · refine isTrue_and (isTrue_plain ?_)
    refine nmL (by assumption) (by walk_at "m_take") (by walk_at "m_mem") ?_
    refine wpAny_truthy_bool ?_
    cases hb : (lrTold vts S).2 with
    | false =>
      rw [if_neg (by decide)]
      rw [hb] at H
      exact ⟨rfl, H⟩
    | true =>
      rw [if_pos rfl]
      refine isTrue_and (isTrue_not (isTrue_plain ?_))
      refine nmL (by assumption) (by walk_at "m_take") (by walk_at "m_mem") ?_
      refine wpAny_truthy_bool ?_
      rw [hno hb, if_neg (by decide)]
      rw [hb, hno hb] at H
      exact ⟨rfl, H⟩
  obtain ⟨rfl, H⟩ := h
  rw [if_neg (by decide)]
  refine wpAny_execs_nil ?_
  show W _ _ _ _ _
  refine wpAny_execs_cons ?_
  refine wpAny_Return_some ?_
  refine nmC (L := L) (by assumption) (by walk_at "m_take") (by walk_at "m_mem") ?_
  exact q rA s (H.sub (by walk_at "m_sub"))
theorem fn_lr2 {vA : Addr} {vts : List Int} {S : Int} {ts : Tok} {Q : Value → Shared → Prop} (hV : Votes vts S) (hA : Ok 12 A) (B : Base w g) (H : Hs g z M s) (t : Take (zR vA vts) M R)
    (q : ∀ r s', Hs g z (zR r (lrTold vts S).1 :: zR vA vts :: R) s' → Q (.ref r) s') : W w A (call (.ref 55) [.ref vA, .int S ts]) Q s :=
  fn_lr (ta := true) (ts := ts) hV hA B H t (fun _ => rfl) (bind_d (T := 50) (B.x H)) q
theorem fn_lr3 {vA : Addr} {vts : List Int} {S : Int} {ts : Tok} {ta : Bool} {Q : Value → Shared → Prop} (hV : Votes vts S) (hA : Ok 12 A) (B : Base w g) (H : Hs g z M s) (t : Take (zR vA vts) M R) (hno : (lrTold vts S).2 = true → ta = true)
    (q : ∀ r s', Hs g z (zR r (lrTold vts S).1 :: zR vA vts :: R) s' → Q (.ref r) s') : W w A (call (.ref 55) [.ref vA, .int S ts, .bool ta]) Q s :=
  fn_lr (ts := ts) hV hA B H t hno (bind_d (T := 50) (B.x H)) q
theorem fn_thr {k : Nat} {v : Value} {Q : Value → Shared → Prop} (hA : Ok (k + 1) A) (B : Base w g) (H : Hs g z M s) (q : ∀ s', Hs g z M s' → Q v s') : W w A (call (.ref 49) [v, .none]) Q s := by
  have hb : BindsTo s (fdOf w 49) ⟨[v, .none], []⟩ [("votes", v), ("threshold", .none)] := BindsTo.of_eq (by kernel_rfl)
  refine call_fn (k := k) (l := [("votes", some v), ("threshold", some .none), ("v", none), ("combined_votes", none), ("min_votes", none), ("vote", none)]) hA B H hb ?_
  intro L s' H hA'
  with_unfolding_all refine wpAny_execs_cons ?_
  refine wpAny_If (wpAny_isTrue_Compare1 ?_)
  refine nmL (by assumption) (by walk_at "m_take") (by walk_at "m_mem") ?_
  refine wpAny_Constant_none ?_
  refine wpAny_pure (a := Value.bool false) (wpAny_truthy_bool ?_)
  rw [if_neg (by decide)]
  refine wpAny_execs_cons ?_
  refine wpAny_Return_some ?_
  refine nmL (by assumption) (by walk_at "m_take") (by walk_at "m_mem") ?_
  exact q _ H.drop
theorem fn_compute {vA : Addr} {vts : List Int} {S : Int} {ts tm : Tok} {Q : Value → Shared → Prop} (hV : Votes vts S) (hA : Ok 14 A) (B : Base w g) (H : Hs g z M s) (t : Take (zR vA vts) M R)
    (q : ∀ r s', Hs g z (zR r (lrTold vts S).1 :: zR vA vts :: R) s' → Q (.ref r) s') : W w A (call (.ref 42) [.str "hamilton" tm, .ref vA, .int S ts]) Q s := by
  have hsl : sizeLine = 2 ^ 24 := rfl
  have hb : BindsTo s (fdOf w 42) ⟨[.str "hamilton" tm, .ref vA, .int S ts], []⟩ [("method", .str "hamilton" tm), ("votes", .ref vA), ("seats", .int S ts), ("threshold", .none), ("tiesallowed", .bool true)] := bind_d (T := 35) (B.x H)
  refine call_fn (k := 13) (l := [("method", some (.str "hamilton" tm)), ("votes", some (.ref vA)), ("seats", some (.int S ts)), ("threshold", some .none), ("tiesallowed", some (.bool true)), ("filtered_votes", none)]) hA B (H.take t) hb ?_
  intro L s' H hA'
  with_unfolding_all refine wpAny_execs_cons ?_
  refine wpAny_Assign_Name ?_ (by kernel_rfl)
  refine PyProof.Rows.Call_Name2 ?_
  refine nmG (v := .ref 49) B H ?_
  refine cwK rfl (evalArgs_plain (spliced_cons ?_))
  refine nmL (by assumption) (by walk_at "m_take") (by walk_at "m_mem") ?_
  refine spliced_cons ?_
  refine nmL (by assumption) (by walk_at "m_take") (by walk_at "m_mem") ?_
  refine spliced_nil ?_
  refine ⟨rfl, B.x H, ?_⟩
  refine fn_thr (k := 10) (hA'.le (by omega)) B H fun s1 H => ?_
  refine stL H (by walk_at "m_take") (by walk_at "m_upl") fun s2 H => ?_
  show W _ _ _ _ _
  refine wpAny_execs_cons ?_
  refine wpAny_If (wpAny_isTrue_Compare1 ?_)
  refine nmL (by assumption) (by walk_at "m_take") (by walk_at "m_mem") ?_
  refine wpAny_Constant_str ?_
  have H := H.tok (s2.toks + 1)
  refine eq_str (wpAny_truthy_bool ?_)
  rw [if_neg (by decide)]
  refine wpAny_execs_cons ?_
  refine wpAny_If (wpAny_isTrue_Compare1 ?_)
  refine nmL (by assumption) (by walk_at "m_take") (by walk_at "m_mem") ?_
  refine Mine.list_ (spliced_cons ?_)
  refine wpAny_Constant_str (k := 0) (pos := ⟨0, 0, 0, 0⟩) ?_
  refine spliced_cons ?_
  refine wpAny_Constant_str (k := 0) (pos := ⟨0, 0, 0, 0⟩) ?_
  refine spliced_cons ?_
  refine wpAny_Constant_str (k := 0) (pos := ⟨0, 0, 0, 0⟩) ?_
  refine spliced_nil ?_
  refine ⟨g, z, _, (H.tok (s2.toks + 1 + 1)).tok (s2.toks + 1 + 1 + 1) |>.tok (s2.toks + 1 + 1 + 1 + 1), by simp; omega, fun lA s3 H => ?_⟩
  obtain ⟨n3, e3⟩ := qR_at (a := lA) H Take.head
  refine SeqAt.in_listAt (fun y => match y with | .str a _ => a == "hamilton" | _ => false) ⟨_, e3, rfl, n3, rfl⟩ (fun y hy => ?_) ?_
  · simp only [List.mem_toArray, List.mem_cons, List.not_mem_nil, or_false] at hy
    rcases hy with rfl | rfl | rfl <;> exact SeqAt.EqAt.str_str _ _ _ _
  refine wpAny_truthy_bool ?_
  rw [if_pos (by kernel_rfl)]
  refine wpAny_execs_cons ?_
  refine wpAny_Return_some ?_
  refine Call_ ?_
  refine nmG (v := .ref 55) B H ?_
  refine cwK rfl (evalArgs_plain (spliced_cons ?_))
  refine nmL (by assumption) (by walk_at "m_take") (by walk_at "m_mem") ?_
  refine spliced_cons ?_
  refine nmL (by assumption) (by walk_at "m_take") (by walk_at "m_mem") ?_
  refine spliced_cons ?_
  refine nmL (by assumption) (by walk_at "m_take") (by walk_at "m_mem") ?_
  refine spliced_nil ?_
  refine ⟨rfl, B.x H, ?_⟩
  refine fn_lr3 (ta := true) hV (hA'.le (by omega)) B H (show Take (zR vA vts) _ _ from (by walk_at "m_take")) (fun _ => rfl) fun r s4 H => ?_
  exact q r s4 (H.sub (by walk_at "m_sub"))
end
end
section
section
variable {w : World} {A : Around} {g : Heap} {z s : Shared} {M M' R : List Res} {env : Env}
theorem code_fnE {k : Nat} {fa : Addr} {args : List Value} {binds : List (Str × Value)} {l : List (Str × Option Value)} {Q : Value → Shared → Prop} {E : Value → Shared → Prop}
    (hA : Ok (k + 1) A) (B : Base w g) (H : Hs g z M s) (hb : BindsTo s (fdOf w fa) ⟨args, []⟩ binds)
    (body : ∀ L s', Hs g z (frR L (cellsOf w fa L) l :: M) s' → Ok k (A.deeper (callEnvC (fdOf w fa) L fa)) → wpAny (model pr w) (A.deeper (callEnvC (fdOf w fa) L fa)) (execs (bodyOf w fa) (callEnvC (fdOf w fa) L fa)) (fun f s'' => Q (match f with | .ret v => v | _ => .none) s'')
      (fun e s'' => wpAny (model pr w) (A.deeper (callEnvC (fdOf w fa) L fa)) (leaving (callEnvC (fdOf w fa) L fa) e) (fun _ s3 => E e s3) (fun e' s3 => E e' s3) s'') s')
    (hf : fnOk w fa = true := by kernel_rfl) (hl : l.map (fun p => binds.reverse.lookup p.1) = l.map (·.2) := by kernel_rfl) (hn : bindsOk w fa binds l = true := by kernel_rfl)
    (hk2 : ((fdOf w fa).scope.names.all fun x => x.2 != .cell || (fdOf w fa).scope.names.lookup x.1 == some .cell) = true := by kernel_rfl) :
    codeAny (model pr w) A (.call (.ref fa) ⟨args, []⟩) (wants Q E) s := by
  unfold fnOk at hf
  split at hf
  · rename_i oc od fd sl ho
    have e : fdOf w fa = fd := by unfold fdOf objOf; rw [ho]
    simp only [Bool.and_eq_true, Bool.not_eq_true', beq_iff_eq, List.isEmpty_iff] at hf
    obtain ⟨⟨⟨⟨⟨h1, hcl⟩, h2⟩, h3⟩, h4⟩, h6⟩ := hf
    have hbody : fd.body = .stmts (bodyOf w fa) := by
      unfold bodyOf; rw [e]
      cases hb : fd.body with
      | stmts b => rfl
      | expr b => rw [hb] at h1; cases h1
    unfold bindsOk at hn
    simp only [Bool.and_eq_true, List.all_eq_true, Bool.or_eq_true, beq_iff_eq] at hn
    obtain ⟨⟨hnd, hkl⟩, hkb⟩ := hn
    rw [e] at hb hkl hkb body hk2
    have cellk : ∀ x c n, (cellsFrom n fd.scope.names []).lookup x = some c → fd.scope.names.lookup x = some .cell := fun x c n hx => by
      rcases cellsFrom_kind hx with h | h
      · have := List.all_eq_true.mp hk2 _ h
        simpa using this
      · cases h
    have X := B.x H
    have lim : s.heap.NoLimit := B.lim.keeps H.base
    refine codeAny_call_function hA.room (X _ _ ho) rfl h2 h3 hbody (codeRec_of X h6) (hb _ _ _ _ ?_)
    rw [hcl]
    refine wpAny_newFunctionEnv_cells h4 (fun x hx => ?_) fun env he s' x => ?_
    · rcases hkb x hx with h | h
      · exact .inl h
      · exact .inr ⟨h, cellsFrom_some (.inl (mem_of_lookup h))⟩
    obtain ⟨h', tk, hs', hk'⟩ := x.done
    refine ⟨by subst hs'; exact lim.keeps hk', codeAny_func ?_⟩
    subst he
    have K : Keeps s s' := ⟨h', tk, hs', hk'⟩
    have hfresh : ∀ b, s.heap.objs.size ≤ b → s.heap.get? b = none := fun b hb => by
      cases q : s.heap.get? b with
      | none => rfl
      | some o => exact absurd (Heap.lt_size q) (Nat.not_lt.mpr hb)
    refine wpAny_mono (body s.heap.objs.size s' (H.new K ?_ ?_) (hA.deeper _)) (fun f s'' h => h) fun _ _ h => h
    · rintro b (rfl | ⟨p, hp, hc⟩)
      · exact hfresh _ (Nat.le_refl _)
      · exact hfresh _ (Nat.le_of_lt (x.above _ _ (mem_of_lookup (show (cellsFrom (s.heap.objs.size + 1) fd.scope.names []).lookup p.1 = some b by rw [← e]; exact hc))))
    · rw [show cellsOf w fa s.heap.objs.size = cellsFrom (s.heap.objs.size + 1) fd.scope.names [] by rw [cellsOf, e]]
      have look : ∀ p ∈ l, binds.reverse.lookup p.1 = p.2 := fun p hp => by
        obtain ⟨i, hi, rfl⟩ := List.mem_iff_getElem.mp hp
        have := congrArg (fun q => q[i]?) hl
        simpa [hi] using this
      refine ⟨⟨_, x.toInCall.ns, fun p hp hc => ?_⟩, fun p hp c hc => ⟨?_, ?_⟩, fun p hp q hq c hc hc' => ?_, nodup_of hnd⟩
      · have hloc : fd.scope.names.lookup p.1 = some .local := by
          rcases hkl p hp with h | h
          · exact h
          · have := cellsFrom_some (n := s.heap.objs.size + 1) (acc := []) (.inl (mem_of_lookup h))
            rw [hc] at this; cases this
        rw [bindL_not hloc, look p hp]; cases p.2 <;> rfl
      · have hcell := cellk _ _ _ hc
        have := x.cell p.1 c hc
        rwa [bindC_not (by show fd.scope.names.lookup p.1 ≠ _; rw [hcell]; decide), look p hp, show (p.2).or ((fun _ => none : Str → Option Value) p.1) = p.2 by cases p.2 <;> rfl] at this
      · exact Nat.ne_of_gt (x.above _ _ (mem_of_lookup hc))
      · exact nodup_key (nodup_of hnd) hp hq (name_of_addr x.apart (mem_of_lookup hc) (mem_of_lookup hc'))
  · cases hf


/-- what is there when the exception has left the method -/
structure RaisedAt (L L2 : Addr) (env0 : Env) (a : Addr) (s1 s' : Shared) : Prop where
  gens : s'.gens = s1.gens
  drawn : s'.drawn = s1.drawn
  os : s'.os = s1.os
  fly : ∃ base t, Heap.FlyingW base [env0] a (.ref 31) (.ref t) s'.heap ∧ base.get? L = none ∧ ∀ b o, b ≠ L → b ≠ L2 → s1.heap.get? b = some o → base.get? b = some o
  up : s1.heap.UpToSlots s'.heap
theorem fr_ns {L : Addr} {cs : List (Str × Addr)} {l : List (Str × Option Value)} (H : Hs g z M s) (t : Take (frR L cs l) M M') : ∃ m, s.heap.Ns L m := by
  obtain ⟨⟨m, hn, _⟩, _⟩ := H.get t
  exact ⟨m, hn⟩
theorem fn_lr_raise {p : Program} {loose : List Str} {mg mb : Str → Option Value} {L vA : Addr} {cs : List (Str × Addr)} {l : List (Str × Option Value)} {env0 : Env} {vts : List Int} {S : Int} {ts : Tok} {Q : Value → Shared → Prop} {E : Value → Shared → Prop} (hV : Votes vts S) (hA : Ok 12 A) (B : Base w g) (T : TopRead p loose mg mb g)
    (hfr : A.frames = some [env0]) (hkind : env0.scope.kind ≠ .module) (hf0 : env0.frame = some L) (H : Hs g z (frR L cs l :: zR vA vts :: R) s) (ht : (lrTold vts S).2 = true)
    (k : ∀ L2 cs2 l2 a s1 s', Hs g z (frR L2 cs2 l2 :: frR L cs l :: zR vA vts :: R) s1 → RaisedAt L L2 env0 a s1 s' → E (.ref a) s') :
    wpAny (model pr w) A (call (.ref 55) [.ref vA, .int S ts, .bool false]) Q E s := by
  have hb : BindsTo s (fdOf w 55) ⟨[.ref vA, .int S ts, .bool false], []⟩ [("votes", .ref vA), ("seats", .int S ts), ("tiesallowed", .bool false)] := bind_d (T := 50) (B.x H)
  refine wpAny_call (code_fnE (k := 11) (l := [("votes", some (.ref vA)), ("seats", some (.int S ts)), ("tiesallowed", some (.bool false)), ("quotas", none), ("representatives", none), ("ties", none), ("remainders", none), ("cutoff", none), ("i", none), ("reps_sum", none)]) hA B H hb ?_)
  intro L2 s' H hA'
  have H : Hs g z (frR L2 (cellsOf w 55 L2) [("votes", some (.ref vA)), ("seats", some (.int S ts)), ("tiesallowed", some (.bool false)), ("quotas", none), ("representatives", none), ("ties", none), ("remainders", none), ("cutoff", none), ("i", none), ("reps_sum", none)] :: zR vA vts :: frR L cs l :: R) s' := H.sub (by walk_at "m_sub")
  refine lr_body (L := L2) (ta := false) hV (hA'.le (by omega)) B H fun last hlast rA qo mo co io ro s1 H => ?_
  rw [← hlast]
  with_unfolding_all refine wpAny_execs_cons ?_
  refine wpAny_If (W.any ?_)
  refine isTrue_and (isTrue_plain ?_)
  refine nmL (by assumption) (by walk_at "m_take") (by walk_at "m_mem") ?_
  refine wpAny_truthy_bool ?_
  rw [ht, if_pos rfl]
  refine isTrue_and (isTrue_not (isTrue_plain ?_))
  refine nmL (by assumption) (by walk_at "m_take") (by walk_at "m_mem") ?_
  refine wpAny_truthy_bool ?_
  rw [if_pos (by rfl)]
  refine isTrue_and_nil ?_
  rw [if_pos rfl]
  refine wpAny_execs_cons ?_
  obtain ⟨tl, N, nm, qq, bs, hdct, sn, sub, ab, col, dd, k0, k1, k2, k3, k5, mN, hC, hN, hni, TL⟩ := (own_of_in (x := "TiesException") (C := 31) (bmB := [.type "Exception", .type "BaseException", .type "object"]) (newId := "Exception.__new__") (B.x H) (T.keeps H.base) (by kernel_rfl) (by kernel_rfl)).obj
  refine wpAny_Raise_call_subU (C := 31) (nm := nm) (q := qq) (N := N) (bs := bs) (bm := tl) (hdct := hdct) (sn := sn) (sub := sub) (ab := ab) (col := col) (dd := dd) (k0 := k0) (k1 := k1) (k2 := k2) (k3 := k3) (k5 := k5)
    F.excBase_Exception (by decide) F.excBase_Exception (mN := mN) (TL.hasType (by decide)) hA'.hd (by rfl) hni (W.any ?_)
  refine nmG (v := .ref 31) B H ⟨rfl, ?_⟩
  refine Calls.evalArgs_plain (Calls.spliced_cons (wpAny_Constant_str (k := 0) (pos := ⟨0, 0, 0, 0⟩) (Calls.spliced_nil ?_)))
  have H := H.tok (s1.toks + 1)
  refine ⟨rfl, by simp; decide, hC, hN, TL, fun h' e hx => ?_⟩
  obtain ⟨m1, n1⟩ := fr_ns (L := L2) H (by walk_at "m_take")
  obtain ⟨m2, n2⟩ := fr_ns (L := L) H (by walk_at "m_take")
  have hframes : (A.deeper (callEnvC (fdOf w 55) L2 55)).frames = some [callEnvC (fdOf w 55) L2 55, env0] := Around.frames_deeper hfr
  refine wpAny_leaves_madeW (base := hideAll s1.heap [L2, L]) hframes rfl (fun b o q => of_hideAll _ q) (.cons (by rw [show (callEnvC (fdOf w 55) L2 55).scope.kind = .function by kernel_rfl]; decide) rfl n1 (hideAll_none _ (.head _)) (.cons hkind hf0 n2 (hideAll_none _ (.tail _ (.head _))) trivial)) hx fun h2 t x1 x2 x3 x4 => ?_
  refine k L2 _ _ e { s1 with toks := s1.toks + 1 } _ (H.sub (by walk_at "m_sub")) ⟨rfl, rfl, rfl, ⟨hideAll s1.heap [L2, L], t, x1, hideAll_none _ (.tail _ (.head _)), fun b o h1 h2 e => hideAll_get _ e fun hm => ?_⟩, (Heap.UpToSlots.of_keeps hx.keeps).trans x4⟩
  rcases List.mem_cons.mp hm with rfl | hm
  · exact h2 rfl
  · exact h1 (List.mem_singleton.mp hm)
end
end
section
section
variable {w : World} {A : Around} {g : Heap} {z s s' : Shared} {M M' R : List Res} {env : Env}
theorem land_hs {L L2 a : Addr} {cs cs2 : List (Str × Addr)} {l l2 : List (Str × Option Value)} {env0 : Env} {s1 : Shared} {base hX : Heap} (H : Hs g z (frR L2 cs2 l2 :: frR L cs l :: M) s1) (r : RaisedAt L L2 env0 a s1 s')
    (hb : ∀ b o, b ≠ L → b ≠ L2 → s1.heap.get? b = some o → base.get? b = some o) (st : base.StaysIn hX) (up : s1.heap.UpToSlots hX) : Hs g z (frR L cs l :: M) { s' with heap := hX } := by
  have hdj : ∀ b, (frR L2 cs2 l2).fp b → (frR L cs l).fp b → False := (List.pairwise_cons.mp H.dj).1 (frR L cs l) List.mem_cons_self
  obtain ⟨⟨m, hn, hm⟩, hcl, hi, hd⟩ := H.get (x := frR L cs l) (Take.tail Take.head)
  have HP : Hs g z (sR [frR L cs l, frR L2 cs2 l2] :: M) s1 := Hs.shut (l := [frR L cs l, frR L2 cs2 l2]) (show Hs g z (frR L cs l :: frR L2 cs2 l2 :: M) s1 from H.perm (List.Perm.swap _ _ _))
  have := HP.put (h' := hX) (t := s'.toks) (r := frR L cs l) (fun b f => ⟨_, List.mem_cons_self, f⟩) (fun b o nf e => st b o (hb b o (fun e1 => nf ⟨_, List.mem_cons_self, .inl e1⟩) (fun e1 => nf ⟨_, List.mem_cons_of_mem _ List.mem_cons_self, .inl e1⟩) e))
    ⟨⟨m, up.ns hn, hm⟩, fun p hp c hc => by
      obtain ⟨⟨o, ho, rest⟩, hne⟩ := hcl p hp c hc
      exact ⟨⟨o, st c o (hb c o hne (fun e1 => hdj c (.inl e1) (.inr ⟨p, hp, hc⟩)) ho), rest⟩, hne⟩, hi, hd⟩
  have e : ({ s' with heap := hX } : Shared) = { s1 with heap := hX, toks := s'.toks } := by
    obtain ⟨h1, g1, d1, t1, o1⟩ := s1
    obtain ⟨h2, g2, d2, t2, o2⟩ := s'
    obtain ⟨e1, e2, e3, _, _⟩ := r
    simp only at e1 e2 e3
    subst e1; subst e2; subst e3; rfl
  rw [e]; exact this
/-- the handler of a tie -/
theorem catch_ties {p : Program} {loose : List Str} {mg mb : Str → Option Value} {L L2 a : Addr} {cs cs2 : List (Str × Addr)} {l l2 : List (Str × Option Value)} {env0 : Env} {s1 : Shared} {np pos : Pos} {b₀ : Stmt} {suite : List Stmt} {rest : List ExceptHandler} {Q : Flow → Shared → Prop} {E : Value → Shared → Prop} (B : Base w g) (T : TopRead p loose mg mb g)
    (hfr : A.frames = some [env0]) (hf0 : env0.frame = some L) (H : Hs g z (frR L2 cs2 l2 :: frR L cs l :: M) s1) (r : RaisedAt L L2 env0 a s1 s')
    (hkf : env0.scope.kind = .function) (hx : env0.kindOf "TiesException" = some .globalImplicit) (hg : env0.globals = mainGlobals)
    (k : ∀ s'', Hs g z (frR L cs l :: M) s'' → W w (A.mark (some (.ref a))) (execs (b₀ :: suite) env0) Q s'') :
    wpAny (model pr w) A (noteFrame (.ref a) env0) (fun _ s₂ => wpAny (model pr w) A (setFlight (.ref a) none) (fun _ s₃ =>
        wpAny (model pr w) A (handleBy (.ref a) env0 (.ExceptHandler (some (.Name "TiesException" np)) none (b₀ :: suite) pos :: rest)) Q E s₃) E s₂) E s' := by
  have r' := r
  obtain ⟨e1, e2, e3, ⟨base, t, hfl, hL, hb⟩, up⟩ := r'
  refine wpAny_looks_onW hfr hf0 hfl fun h₄ hheld₄ hsm₄ => ?_
  refine wpAny_landsW hheld₄ fun h₅ hheld hsm₅' => ?_
  have hsm₅ := up.trans (hsm₄.trans hsm₅')
  have H5 : Hs g z (frR L cs l :: M) { s' with heap := h₅ } := land_hs H r hb hheld.1 hsm₅
  obtain ⟨ob, hob, hobc⟩ := hheld.there
  refine wpAny_handleBy_cons (codeAny_handlers_test (W.any (nmG (v := .ref 31) B H5 ?_ (by kernel_rfl) hkf hx hg))) (by intro q; cases q)
  obtain ⟨tl, N, nm, qq, bs, hdct, sn, sub, ab, col, dd, k0, k1, k2, k3, k5, mN, hC, hN, hni, TL⟩ := (own_of_in (x := "TiesException") (C := 31) (bmB := [.type "Exception", .type "BaseException", .type "object"]) (newId := "Exception.__new__") (B.x H5) (T.keeps H5.base) (by kernel_rfl) (by kernel_rfl)).obj
  refine wpAny_excMatches_sub_self hC hob hobc (TL.hasType (by decide)) (codeAny_handlers_suite ?_)
  refine lands_againW hheld fun h₆ hfl₆ hsm₆ => ?_
  exact W.any (k _ (show Hs g z (frR L cs l :: M) { s' with heap := h₆ } from land_hs H r hb hfl₆.1 (hsm₅.trans hsm₆)))
end
end
section
def sm (n : Nat) (F : Nat → Int) : Int := ((List.range n).map F).sum
theorem sm_zero (F : Nat → Int) : sm 0 F = 0 := rfl
theorem sm_succ (n : Nat) (F : Nat → Int) : sm (n + 1) F = sm n F + F n := by unfold sm; rw [List.range_succ, List.map_append, List.sum_append]; simp
theorem sm_congr {n : Nat} {F G : Nat → Int} (h : ∀ j, j < n → F j = G j) : sm n F = sm n G := by
  unfold sm
  rw [List.map_congr_left fun j hj => h j (List.mem_range.mp hj)]
theorem sm_add (n : Nat) (F G : Nat → Int) : sm n (fun j => F j + G j) = sm n F + sm n G := by
  induction n with
  | zero => rfl
  | succ n ih => rw [sm_succ, sm_succ, sm_succ, ih]; omega
theorem sm_sub (n : Nat) (F G : Nat → Int) : sm n (fun j => F j - G j) = sm n F - sm n G := by
  induction n with
  | zero => rfl
  | succ n ih => rw [sm_succ, sm_succ, sm_succ, ih]; omega
theorem sm_mul (n : Nat) (c : Int) (F : Nat → Int) : sm n (fun j => c * F j) = c * sm n F := by
  induction n with
  | zero => simp [sm_zero]
  | succ n ih => rw [sm_succ, sm_succ, ih, Int.mul_add]
theorem sm_le {n : Nat} {F G : Nat → Int} (h : ∀ j, j < n → F j ≤ G j) : sm n F ≤ sm n G := by
  induction n with
  | zero => exact Int.le_refl _
  | succ n ih =>
    rw [sm_succ, sm_succ]
    have := ih fun j hj => h j (by omega)
    have := h n (by omega)
    omega
theorem sm_lt {n : Nat} {F G : Nat → Int} (h : ∀ j, j < n → F j ≤ G j) {i : Nat} (hi : i < n) (hs : F i < G i) : sm n F < sm n G := by
  induction n with
  | zero => omega
  | succ n ih =>
    rw [sm_succ, sm_succ]
    have h1 := sm_le (n := n) fun j hj => h j (by omega)
    have h2 := h n (by omega)
    rcases Nat.lt_or_eq_of_le (Nat.le_of_lt_succ hi) with hlt | rfl
    · have := ih (fun j hj => h j (by omega)) hlt; omega
    · omega
theorem sm_upd {n i : Nat} {a : Int} {F : Nat → Int} (hi : i < n) : sm n (fun j => if j = i then a else F j) = sm n F + (a - F i) := by
  induction n with
  | zero => omega
  | succ n ih =>
    rw [sm_succ, sm_succ]
    rcases Nat.lt_or_eq_of_le (Nat.le_of_lt_succ hi) with hlt | rfl
    · rw [ih hlt, if_neg (by omega)]; omega
    · rw [if_pos rfl, sm_congr (G := F) fun j hj => if_neg (by omega)]; omega
theorem map_sm (F : Int → Int) : ∀ l : List Int, (l.map F).sum = sm l.length fun i => F (l.getD i 0) := by
  intro l
  unfold sm
  congr 1
  refine List.ext_getElem (by simp) fun i h1 h2 => ?_
  simp at h1
  simp [h1]
theorem sum_sm (l : List Int) : l.sum = sm l.length fun i => l.getD i 0 := by
  have := map_sm id l
  simpa using this
theorem count_sm (p : Int → Bool) (l : List Int) : (l.countP p : Int) = sm l.length fun i => if p (l.getD i 0) then 1 else 0 := by
  rw [← map_sm (fun x => if p x then 1 else 0)]
  induction l with
  | nil => rfl
  | cons a r ih =>
    rw [List.map_cons, List.sum_cons, ← ih, List.countP_cons]
    split <;> simp <;> omega
theorem getD_set {l : List Int} {i j : Nat} {x : Int} : (l.set i x).getD j 0 = if i = j ∧ j < l.length then x else l.getD j 0 := by
  rw [List.getD_eq_getElem?_getD, List.getD_eq_getElem?_getD, List.getElem?_set]
  by_cases h : i = j
  · subst h
    by_cases h2 : i < l.length
    · simp [h2]
    · simp [h2]
  · simp [h]
theorem list_ext {l l' : List Int} (h : l.length = l'.length) (he : ∀ j, j < l.length → l.getD j 0 = l'.getD j 0) : l = l' := by
  refine List.ext_getElem h fun j h1 h2 => ?_
  have := he j h1
  rwa [List.getD_eq_getElem?_getD, List.getD_eq_getElem?_getD, List.getElem?_eq_getElem h1, List.getElem?_eq_getElem h2] at this
section
variable {vts : List Int} {S : Int}
/-- a way of sharing that keeps to the bounds -/
structure IsWay (vts : List Int) (S : Int) (l : List Int) : Prop where
  len : l.length = vts.length
  up : ∀ i, i < vts.length → l.getD i 0 = (flL vts S).getD i 0 ∨ l.getD i 0 = (flL vts S).getD i 0 + 1
  sum : l.sum = S
def upB (vts : List Int) (S : Int) (l : List Int) (i : Nat) : Bool := decide (l.getD i 0 > (flL vts S).getD i 0)
def gainL (vts : List Int) (S : Int) (l : List Int) : Int := sm vts.length fun i => if upB vts S l i then (remL vts S).getD i 0 else 0
def absI (a : Int) : Int := if a < 0 then -a else a
def strayL (vts : List Int) (S : Int) (l : List Int) : Int := sm vts.length fun i => absI (l.getD i 0 * vts.sum - vts.getD i 0 * S)
theorem fl_at {i : Nat} (hi : i < vts.length) : (flL vts S).getD i 0 = (vts.getD i 0 * S).fdiv vts.sum := by
  unfold flL
  simp [List.getD_eq_getElem?_getD, hi]
theorem rem_at {i : Nat} (hi : i < vts.length) : (remL vts S).getD i 0 = vts.getD i 0 * S - (vts.getD i 0 * S).fdiv vts.sum * vts.sum := by
  unfold remL
  simp [List.getD_eq_getElem?_getD, hi]
theorem v_mem {i : Nat} (hi : i < vts.length) : vts.getD i 0 ∈ vts := by
  simp [List.getD_eq_getElem?_getD, hi]
theorem rem_bnd (h : Votes vts S) {i : Nat} (hi : i < vts.length) : 0 ≤ (remL vts S).getD i 0 ∧ (remL vts S).getD i 0 < vts.sum := by
  rw [rem_at hi]
  have := h.div (v_mem hi)
  omega
/-- the cut -/
theorem cut_facts (h : Votes vts S) (hm : (flL vts S).sum < S) :
    S - (flL vts S).sum ≤ sm vts.length (fun i => if cutL vts S ≤ (remL vts S).getD i 0 then 1 else 0) ∧ sm vts.length (fun i => if cutL vts S < (remL vts S).getD i 0 then 1 else 0) < S - (flL vts S).sum := by
  obtain ⟨h1, h2, h3⟩ := h.fl
  have hrl : (remL vts S).length = vts.length := by unfold remL; simp
  generalize hms : (remL vts S).mergeSort (fun a b => decide (a ≤ b)) = ms
  have hp : ms.Perm (remL vts S) := by rw [← hms]; exact List.mergeSort_perm _ _
  have hs : ms.Pairwise (· ≤ ·) := by
    rw [← hms]
    have := List.pairwise_mergeSort (le := fun a b : Int => decide (a ≤ b)) (fun a b c h1 h2 => by simp at *; omega) (fun a b => by simp; omega) (remL vts S)
    exact this.imp fun h => by simpa using h
  have hl : ms.length = vts.length := hp.length_eq.trans hrl
  obtain ⟨d, hd⟩ : ∃ d : Nat, (d : Int) = (flL vts S).sum - S + vts.length := ⟨((flL vts S).sum - S + vts.length).toNat, by omega⟩
  have hdl : d < ms.length := by omega
  have hc : cutL vts S = ms[d] := by
    unfold cutL
    rw [hms, show ((flL vts S).sum - S + vts.length).toNat = d by omega, List.getD_eq_getElem?_getD, List.getElem?_eq_getElem hdl]
    rfl
  have hge : ∀ x ∈ ms.drop d, cutL vts S ≤ x := fun x hx => by
    obtain ⟨i, hi, rfl⟩ := List.mem_iff_getElem.mp hx
    rw [List.getElem_drop, hc]
    rw [List.length_drop] at hi
    rcases Nat.eq_zero_or_pos i with rfl | h0
    · exact Int.le_refl _
    · exact List.pairwise_iff_getElem.mp hs d (d + i) hdl (by omega) (by omega)
  have hle : ∀ x ∈ ms.take (d + 1), ¬ cutL vts S < x := fun x hx => by
    obtain ⟨i, hi, rfl⟩ := List.mem_iff_getElem.mp hx
    rw [List.getElem_take, hc]
    rw [List.length_take] at hi
    rcases Nat.lt_or_eq_of_le (show i ≤ d by omega) with h0 | rfl
    · have := List.pairwise_iff_getElem.mp hs i d (by omega) hdl h0
      omega
    · omega
  constructor
  · have e := count_sm (fun x => decide (cutL vts S ≤ x)) (remL vts S)
    simp only [decide_eq_true_eq] at e
    rw [hrl] at e
    rw [← e, ← hp.countP_eq]
    have : ms.countP (fun x => decide (cutL vts S ≤ x)) = (ms.take d).countP (fun x => decide (cutL vts S ≤ x)) + (ms.drop d).countP (fun x => decide (cutL vts S ≤ x)) := by
      rw [← List.countP_append, List.take_append_drop]
    have h5 : (ms.drop d).countP (fun x => decide (cutL vts S ≤ x)) = (ms.drop d).length := List.countP_eq_length.mpr fun x hx => by simpa using hge x hx
    rw [List.length_drop] at h5
    omega
  · have e := count_sm (fun x => decide (cutL vts S < x)) (remL vts S)
    simp only [decide_eq_true_eq] at e
    rw [hrl] at e
    rw [← e, ← hp.countP_eq]
    have : ms.countP (fun x => decide (cutL vts S < x)) = (ms.take (d + 1)).countP (fun x => decide (cutL vts S < x)) + (ms.drop (d + 1)).countP (fun x => decide (cutL vts S < x)) := by
      rw [← List.countP_append, List.take_append_drop]
    have h5 : (ms.take (d + 1)).countP (fun x => decide (cutL vts S < x)) = 0 := List.countP_eq_zero.mpr fun x hx => by simpa using hle x hx
    have h6 := List.countP_le_length (p := fun x => decide (cutL vts S < x)) (l := ms.drop (d + 1))
    rw [List.length_drop] at h6
    omega
/-- the loop's state -/
theorem lr_state {cut : Int} {rems fl : List Int} (hl : rems.length = fl.length) (hm : fl.sum ≤ S) : ∀ i, i ≤ fl.length →
    (lrSt S cut rems fl i).1.length = fl.length ∧ (lrSt S cut rems fl i).1.sum = fl.sum + min (S - fl.sum) (sm i fun j => if cut ≤ rems.getD j 0 then 1 else 0) ∧
    (lrSt S cut rems fl i).2 = decide (S - fl.sum < sm i fun j => if cut ≤ rems.getD j 0 then 1 else 0) ∧
    ∀ j, j < fl.length → (lrSt S cut rems fl i).1.getD j 0 = fl.getD j 0 + (if j < i ∧ cut ≤ rems.getD j 0 ∧ sm j (fun j => if cut ≤ rems.getD j 0 then 1 else 0) < S - fl.sum then 1 else 0)
  | 0, _ => by
    refine ⟨rfl, ?_, ?_, fun j hj => by simp [lrSt]⟩
    · rw [sm_zero]; show fl.sum = _; omega
    · rw [sm_zero, show decide (S - fl.sum < 0) = false from decide_eq_false (by omega)]; rfl
  | i + 1, hi => by
    obtain ⟨h1, h2, h3, h4⟩ := lr_state (cut := cut) hl hm i (by omega)
    have hg : (lrSt S cut rems fl (i + 1)) = lrStep S cut rems (lrSt S cut rems fl i) i := rfl
    rw [hg]
    generalize lrSt S cut rems fl i = st at h1 h2 h3 h4
    have hsm := sm_succ i fun j => if cut ≤ rems.getD j 0 then (1 : Int) else 0
    generalize hc : sm i (fun j => if cut ≤ rems.getD j 0 then (1 : Int) else 0) = c at h2 h3 hsm
    have hc0 : 0 ≤ c := by
      rw [← hc]
      have := sm_le (n := i) (F := fun _ => 0) (G := fun j => if cut ≤ rems.getD j 0 then (1 : Int) else 0) fun j _ => by split <;> omega
      have e0 : sm i (fun _ => (0 : Int)) = 0 := by have := sm_mul i 0 (fun _ => 0); simpa using this
      omega
    rw [hsm]
    have hset : (st.1.set i (st.1.getD i 0 + 1)).sum = st.1.sum + 1 := by
      rw [sum_sm, sum_sm st.1, List.length_set, h1]
      rw [sm_congr (G := fun j => if j = i then st.1.getD i 0 + 1 else st.1.getD j 0) fun j hj => by
        rw [getD_set]
        by_cases e : j = i
        · rw [if_pos ⟨e.symm, by omega⟩, if_pos e]
        · rw [if_neg (fun h => e h.1.symm), if_neg e]]
      rw [sm_upd (by omega)]; omega
    unfold lrStep
    by_cases hcut : cut ≤ rems.getD i 0
    · rw [if_pos hcut]
      by_cases hfull : st.1.sum = S
      · rw [if_pos ⟨hfull, hcut⟩]
        refine ⟨h1, by rw [h2]; omega, ?_, fun j hj => ?_⟩
        · show true = _
          rw [decide_eq_true (by omega)]
        · rw [h4 j hj]
          congr 1
          by_cases e : j = i
          · subst e
            rw [if_neg (fun h => by omega), if_neg (fun h => by rw [hc] at h; omega)]
          · by_cases hq : j < i ∧ cut ≤ rems.getD j 0 ∧ sm j (fun j => if cut ≤ rems.getD j 0 then 1 else 0) < S - fl.sum
            · rw [if_pos hq, if_pos ⟨by omega, hq.2⟩]
            · rw [if_neg hq, if_neg (fun h => hq ⟨by omega, h.2⟩)]
      · rw [if_neg (fun h => hfull h.1), if_pos ⟨by omega, hcut⟩]
        refine ⟨by rw [List.length_set]; exact h1, by rw [hset, h2]; omega, ?_, fun j hj => ?_⟩
        · rw [h3, decide_eq_false (by omega), decide_eq_false (by omega)]
        · rw [getD_set]
          by_cases e : j = i
          · subst e
            rw [if_pos ⟨rfl, by omega⟩, h4 j hj, if_neg (fun h => by omega), if_pos ⟨by omega, hcut, by rw [hc]; omega⟩]
            omega
          · rw [if_neg (fun h => e h.1.symm), h4 j hj]
            congr 1
            by_cases hq : j < i ∧ cut ≤ rems.getD j 0 ∧ sm j (fun j => if cut ≤ rems.getD j 0 then 1 else 0) < S - fl.sum
            · rw [if_pos hq, if_pos ⟨by omega, hq.2⟩]
            · rw [if_neg hq, if_neg (fun h => hq ⟨by omega, h.2⟩)]
    · rw [if_neg hcut, if_neg (fun h => hcut h.2), if_neg (fun h => hcut h.2)]
      refine ⟨h1, by rw [h2]; omega, by rw [h3]; congr 1; simp, fun j hj => ?_⟩
      rw [h4 j hj]
      congr 1
      by_cases e : j = i
      · subst e
        rw [if_neg (fun h => by omega), if_neg (fun h => hcut h.2.1)]
      · by_cases hq : j < i ∧ cut ≤ rems.getD j 0 ∧ sm j (fun j => if cut ≤ rems.getD j 0 then 1 else 0) < S - fl.sum
        · rw [if_pos hq, if_pos ⟨by omega, hq.2⟩]
        · rw [if_neg hq, if_neg (fun h => hq ⟨by omega, h.2⟩)]
end
end
section
section
variable {vts : List Int} {S : Int}
theorem sm_mono {F : Nat → Int} (h : ∀ j, 0 ≤ F j) {i k : Nat} (hik : i ≤ k) : sm i F ≤ sm k F := by
  induction k with
  | zero => rw [Nat.le_zero.mp hik]; exact Int.le_refl _
  | succ k ih =>
    rcases Nat.lt_or_eq_of_le hik with hlt | rfl
    · rw [sm_succ]; have := ih (by omega); have := h k; omega
    · exact Int.le_refl _
theorem fl_len : (flL vts S).length = vts.length := by unfold flL; simp
theorem rem_len : (remL vts S).length = vts.length := by unfold remL; simp
theorem fl_sm : (flL vts S).sum = sm vts.length fun j => (flL vts S).getD j 0 := by rw [sum_sm, fl_len]
theorem told_way (h : Votes vts S) : IsWay vts S (lrTold vts S).1 := by
  obtain ⟨h1, h2, h3⟩ := h.fl
  by_cases hlt : (flL vts S).sum < S
  · rw [show lrTold vts S = lrSt S (cutL vts S) (remL vts S) (flL vts S) vts.length by unfold lrTold; rw [if_pos hlt]]
    obtain ⟨c1, c2⟩ := cut_facts h hlt
    obtain ⟨a1, a2, a3, a4⟩ := lr_state (cut := cutL vts S) (rems := remL vts S) (fl := flL vts S) (S := S) (by rw [rem_len, fl_len]) h1 vts.length (by rw [fl_len]; exact Nat.le_refl _)
    refine ⟨a1.trans fl_len, fun i hi => ?_, by rw [a2]; omega⟩
    rw [a4 i (by rw [fl_len]; exact hi)]
    split <;> omega
  · rw [show lrTold vts S = (flL vts S, false) by unfold lrTold; rw [if_neg hlt]]
    exact ⟨fl_len, fun i hi => .inl rfl, by show (flL vts S).sum = S; omega⟩
theorem no_tie (h : Votes vts S) (ht : (lrTold vts S).2 = false) : ∃ c, ∀ j, j < vts.length → (lrTold vts S).1.getD j 0 = (flL vts S).getD j 0 + if c ≤ (remL vts S).getD j 0 then 1 else 0 := by
  obtain ⟨h1, h2, h3⟩ := h.fl
  by_cases hlt : (flL vts S).sum < S
  · rw [show lrTold vts S = lrSt S (cutL vts S) (remL vts S) (flL vts S) vts.length by unfold lrTold; rw [if_pos hlt]] at ht ⊢
    obtain ⟨a1, a2, a3, a4⟩ := lr_state (cut := cutL vts S) (rems := remL vts S) (fl := flL vts S) (S := S) (by rw [rem_len, fl_len]) h1 vts.length (by rw [fl_len]; exact Nat.le_refl _)
    rw [a3] at ht
    have hle := of_decide_eq_false ht
    refine ⟨cutL vts S, fun j hj => ?_⟩
    rw [a4 j (by rw [fl_len]; exact hj)]
    congr 1
    by_cases hc : cutL vts S ≤ (remL vts S).getD j 0
    · have e := sm_succ j fun j => if cutL vts S ≤ (remL vts S).getD j 0 then (1 : Int) else 0
      rw [if_pos hc] at e
      have hmn := sm_mono (F := fun j => if cutL vts S ≤ (remL vts S).getD j 0 then (1 : Int) else 0) (fun j => by split <;> omega) (show j + 1 ≤ vts.length by omega)
      have hq : sm j (fun j => if cutL vts S ≤ (remL vts S).getD j 0 then (1 : Int) else 0) < S - (flL vts S).sum := by omega
      rw [if_pos hc, if_pos ⟨hj, hc, hq⟩]
    · rw [if_neg hc, if_neg (fun h => hc h.2.1)]
  · rw [show lrTold vts S = (flL vts S, false) by unfold lrTold; rw [if_neg hlt]]
    refine ⟨vts.sum, fun j hj => ?_⟩
    rw [if_neg (by have := rem_bnd h hj; omega)]
    simp
theorem way_sm {l : List Int} (hl : IsWay vts S l) : sm vts.length (fun j => l.getD j 0 - (flL vts S).getD j 0) = S - (flL vts S).sum := by
  rw [sm_sub, ← fl_sm]
  have := sum_sm l
  rw [hl.len, hl.sum] at this
  omega
theorem up_iff {l : List Int} {i : Nat} : upB vts S l i = true ↔ l.getD i 0 > (flL vts S).getD i 0 := by unfold upB; simp
theorem gain_c {l : List Int} (c : Int) (hl : IsWay vts S l) : gainL vts S l = sm vts.length (fun j => (if upB vts S l j then (remL vts S).getD j 0 else 0) - c * (l.getD j 0 - (flL vts S).getD j 0)) + c * (S - (flL vts S).sum) := by
  rw [sm_sub, sm_mul, way_sm hl]
  unfold gainL
  omega
theorem term_le {l : List Int} {c : Int} {j : Nat} (hl : IsWay vts S l) (hj : j < vts.length) (ht : ∀ j, j < vts.length → (lrTold vts S).1.getD j 0 = (flL vts S).getD j 0 + if c ≤ (remL vts S).getD j 0 then 1 else 0) :
    (if upB vts S l j then (remL vts S).getD j 0 else 0) - c * (l.getD j 0 - (flL vts S).getD j 0) ≤ (if upB vts S (lrTold vts S).1 j then (remL vts S).getD j 0 else 0) - c * ((lrTold vts S).1.getD j 0 - (flL vts S).getD j 0) ∧
    (l.getD j 0 > (lrTold vts S).1.getD j 0 → (if upB vts S l j then (remL vts S).getD j 0 else 0) - c * (l.getD j 0 - (flL vts S).getD j 0) < (if upB vts S (lrTold vts S).1 j then (remL vts S).getD j 0 else 0) - c * ((lrTold vts S).1.getD j 0 - (flL vts S).getD j 0)) := by
  have e := ht j hj
  have key : ∀ m : List Int, ∀ y : Int, m.getD j 0 = (flL vts S).getD j 0 + y → (y = 0 ∨ y = 1) → (if upB vts S m j then (remL vts S).getD j 0 else 0) - c * (m.getD j 0 - (flL vts S).getD j 0) = if y = 1 then (remL vts S).getD j 0 - c else 0 := by
    intro m y hm hy
    rcases hy with rfl | rfl
    · rw [if_neg (fun h => by have := up_iff.mp h; omega), hm]; simp
    · rw [if_pos (up_iff.mpr (by omega)), hm, if_pos rfl, show (flL vts S).getD j 0 + 1 - (flL vts S).getD j 0 = 1 by omega, Int.mul_one]
  obtain ⟨y, hy, hy01⟩ : ∃ y, l.getD j 0 = (flL vts S).getD j 0 + y ∧ (y = 0 ∨ y = 1) := by
    rcases hl.up j hj with h | h
    · exact ⟨0, by omega, .inl rfl⟩
    · exact ⟨1, h, .inr rfl⟩
  rw [key l y hy hy01, key _ _ e (by split <;> omega)]
  by_cases hc : c ≤ (remL vts S).getD j 0
  · rw [if_pos hc] at e ⊢
    rw [if_pos rfl]
    rcases hy01 with rfl | rfl
    · rw [if_neg (by omega)]; exact ⟨by omega, fun h => by omega⟩
    · rw [if_pos rfl]; exact ⟨by omega, fun h => by omega⟩
  · rw [if_neg hc] at e ⊢
    rw [if_neg (show ¬ ((0 : Int) = 1) by omega)]
    rcases hy01 with rfl | rfl
    · rw [if_neg (by omega)]; exact ⟨by omega, fun h => by omega⟩
    · rw [if_pos rfl]; exact ⟨by omega, fun h => by omega⟩
/-- without a tie told is the one best way -/
theorem best_one (h : Votes vts S) (ht : (lrTold vts S).2 = false) {l : List Int} (hl : IsWay vts S l) : gainL vts S l ≤ gainL vts S (lrTold vts S).1 ∧ (l ≠ (lrTold vts S).1 → gainL vts S l < gainL vts S (lrTold vts S).1) := by
  obtain ⟨c, hc⟩ := no_tie h ht
  have hw := told_way h
  rw [gain_c c hl, gain_c c hw]
  refine ⟨by have := sm_le fun j hj => (term_le hl hj hc).1; omega, fun hne => ?_⟩
  obtain ⟨i, hi, hgt⟩ : ∃ i, i < vts.length ∧ l.getD i 0 > (lrTold vts S).1.getD i 0 := by
    refine Classical.byContradiction fun hno => ?_
    have hle : ∀ j, j < vts.length → l.getD j 0 ≤ (lrTold vts S).1.getD j 0 := fun j hj => Int.not_lt.mp fun hlt => hno ⟨j, hj, hlt⟩
    obtain ⟨j, hj, hjne⟩ : ∃ j, j < vts.length ∧ l.getD j 0 ≠ (lrTold vts S).1.getD j 0 := Classical.byContradiction fun hno2 => hne (list_ext (hl.len.trans hw.len.symm) fun j hj => Classical.byContradiction fun hjn => hno2 ⟨j, by rw [← hl.len]; exact hj, hjn⟩)
    have := sm_lt hle hj (by have := hle j hj; omega)
    have e1 := sum_sm l
    have e2 := sum_sm (lrTold vts S).1
    rw [hl.len, hl.sum] at e1
    rw [hw.len, hw.sum] at e2
    omega
  have := sm_lt (fun j hj => (term_le hl hj hc).1) hi ((term_le hl hi hc).2 hgt)
  omega
/-- with a tie every way has another that is no worse -/
theorem best_more (h : Votes vts S) (ht : (lrTold vts S).2 = true) {l : List Int} (hl : IsWay vts S l) : ∃ l', IsWay vts S l' ∧ l' ≠ l ∧ gainL vts S l ≤ gainL vts S l' := by
  obtain ⟨h1, h2, h3⟩ := h.fl
  have hlt : (flL vts S).sum < S := by
    refine Classical.byContradiction fun hlt => ?_
    rw [show lrTold vts S = (flL vts S, false) by unfold lrTold; rw [if_neg hlt]] at ht
    cases ht
  rw [show lrTold vts S = lrSt S (cutL vts S) (remL vts S) (flL vts S) vts.length by unfold lrTold; rw [if_pos hlt]] at ht
  obtain ⟨c1, c2⟩ := cut_facts h hlt
  obtain ⟨a1, a2, a3, a4⟩ := lr_state (cut := cutL vts S) (rems := remL vts S) (fl := flL vts S) (S := S) (by rw [rem_len, fl_len]) h1 vts.length (by rw [fl_len]; exact Nat.le_refl _)
  rw [a3] at ht
  have hmore := of_decide_eq_true ht
  have hws := way_sm hl
  obtain ⟨i, hi, hiu, hic⟩ : ∃ i, i < vts.length ∧ l.getD i 0 = (flL vts S).getD i 0 + 1 ∧ (remL vts S).getD i 0 ≤ cutL vts S := by
    refine Classical.byContradiction fun hno => ?_
    have := sm_le (n := vts.length) (F := fun j => l.getD j 0 - (flL vts S).getD j 0) (G := fun i => if cutL vts S < (remL vts S).getD i 0 then 1 else 0) fun j hj => by
      rcases hl.up j hj with h | h
      · rw [h]; split <;> omega
      · rw [if_pos (Int.not_le.mp fun hc => hno ⟨j, hj, h, hc⟩)]; omega
    omega
  obtain ⟨j, hj, hju, hjc⟩ : ∃ j, j < vts.length ∧ l.getD j 0 = (flL vts S).getD j 0 ∧ cutL vts S ≤ (remL vts S).getD j 0 := by
    refine Classical.byContradiction fun hno => ?_
    have := sm_le (n := vts.length) (F := fun i => if cutL vts S ≤ (remL vts S).getD i 0 then 1 else 0) (G := fun j => l.getD j 0 - (flL vts S).getD j 0) fun j hj => by
      rcases hl.up j hj with h | h
      · rw [if_neg (fun hc => hno ⟨j, hj, h, hc⟩)]; omega
      · rw [h]; split <;> omega
    omega
  have hij : i ≠ j := by rintro rfl; omega
  have hat : ∀ k, k < vts.length → ((l.set i ((flL vts S).getD i 0)).set j ((flL vts S).getD j 0 + 1)).getD k 0 = if k = j then (flL vts S).getD j 0 + 1 else if k = i then (flL vts S).getD i 0 else l.getD k 0 := fun k hk => by
    rw [getD_set, getD_set, List.length_set, hl.len]
    by_cases e1 : k = j
    · rw [if_pos ⟨e1.symm, hk⟩, if_pos e1]
    · rw [if_neg (fun h => e1 h.1.symm), if_neg e1]
      by_cases e2 : k = i
      · rw [if_pos ⟨e2.symm, hk⟩, if_pos e2]
      · rw [if_neg (fun h => e2 h.1.symm), if_neg e2]
  refine ⟨(l.set i ((flL vts S).getD i 0)).set j ((flL vts S).getD j 0 + 1), ⟨by rw [List.length_set, List.length_set]; exact hl.len, fun k hk => ?_, ?_⟩, fun e => ?_, ?_⟩
  · rw [hat k hk]
    split
    · rename_i e; subst e; exact .inr rfl
    · split
      · rename_i e; subst e; exact .inl rfl
      · exact hl.up k hk
  · rw [sum_sm, List.length_set, List.length_set, hl.len, sm_congr hat, sm_upd hj, sm_upd hi, if_neg (Ne.symm hij)]
    have e1 := sum_sm l
    rw [hl.len, hl.sum] at e1
    omega
  · have := hat j hj
    rw [e, if_pos rfl, hju] at this
    omega
  · generalize (l.set i ((flL vts S).getD i 0)).set j ((flL vts S).getD j 0 + 1) = l' at hat
    unfold gainL
    have hterm : ∀ k, k < vts.length → (if upB vts S l' k then (remL vts S).getD k 0 else 0) = if k = j then (remL vts S).getD j 0 else if k = i then 0 else if upB vts S l k then (remL vts S).getD k 0 else 0 := fun k hk => by
      have hk' := hat k hk
      by_cases e1 : k = j
      · rw [if_pos e1] at hk'
        have hu : upB vts S l' k = true := up_iff.mpr (by rw [hk', e1]; omega)
        rw [if_pos hu, if_pos e1, e1]
      · rw [if_neg e1] at hk'
        rw [if_neg e1]
        by_cases e2 : k = i
        · rw [if_pos e2] at hk'
          have hu : ¬ upB vts S l' k = true := fun h => by have := up_iff.mp h; rw [hk', e2] at this; omega
          rw [if_neg hu, if_pos e2]
        · rw [if_neg e2] at hk'
          rw [if_neg e2]
          have hu : upB vts S l' k = upB vts S l k := by unfold upB; rw [hk']
          rw [hu]
    have hui : upB vts S l i = true := up_iff.mpr (by omega)
    have huj : ¬ upB vts S l j = true := fun h => by have := up_iff.mp h; omega
    rw [sm_congr hterm, sm_upd hj, sm_upd hi, if_neg (Ne.symm hij), if_neg huj, if_pos hui]
    omega
theorem absI_nonneg (a : Int) : 0 ≤ absI a := by unfold absI; split <;> omega
theorem d_at {i : Nat} (hi : i < vts.length) (y : Int) : ((flL vts S).getD i 0 + y) * vts.sum - vts.getD i 0 * S = y * vts.sum - (remL vts S).getD i 0 := by
  rw [rem_at hi, fl_at hi, Int.add_mul]
  omega
/-- how far a way strays -/
theorem stray_gain (h : Votes vts S) {l : List Int} (hl : IsWay vts S l) : strayL vts S l = sm vts.length (fun i => (remL vts S).getD i 0) + vts.sum * (S - (flL vts S).sum) - 2 * gainL vts S l := by
  rw [← way_sm hl, ← sm_mul]
  unfold gainL
  rw [← sm_mul, ← sm_add, ← sm_sub]
  unfold strayL
  refine sm_congr fun i hi => ?_
  have hb := rem_bnd h hi
  rcases hl.up i hi with e | e
  · rw [if_neg (fun h => by have := up_iff.mp h; omega), show l.getD i 0 = (flL vts S).getD i 0 + 0 by omega, d_at hi]
    unfold absI
    simp only [Int.zero_mul, Int.add_zero, Int.sub_self, Int.mul_zero]
    split <;> omega
  · rw [if_pos (up_iff.mpr (by omega)), e, d_at hi]
    unfold absI
    rw [show (flL vts S).getD i 0 + 1 - (flL vts S).getD i 0 = 1 by omega, Int.mul_one, Int.one_mul]
    split <;> omega
theorem stray_min (h : Votes vts S) (ht : (lrTold vts S).2 = false) {l : List Int} (hl : IsWay vts S l) : strayL vts S (lrTold vts S).1 ≤ strayL vts S l := by
  rw [stray_gain h hl, stray_gain h (told_way h)]
  have := (best_one h ht hl).1
  omega
/-- no move of a seat betters it -/
theorem stray_move (h : Votes vts S) (ht : (lrTold vts S).2 = false) {a b : Nat} (ha : a < vts.length) (hb : b < vts.length) (hab : a ≠ b) {m : List Int} (hm : ∀ k, k < vts.length → m.getD k 0 = (lrTold vts S).1.getD k 0 - (if k = a then 1 else 0) + (if k = b then 1 else 0)) :
    strayL vts S (lrTold vts S).1 ≤ strayL vts S m := by
  obtain ⟨c, hc⟩ := no_tie h ht
  unfold strayL
  rw [sm_congr (F := fun i => absI (m.getD i 0 * vts.sum - vts.getD i 0 * S)) (G := fun k => if k = b then absI (((lrTold vts S).1.getD b 0 + 1) * vts.sum - vts.getD b 0 * S) else if k = a then absI (((lrTold vts S).1.getD a 0 - 1) * vts.sum - vts.getD a 0 * S) else absI ((lrTold vts S).1.getD k 0 * vts.sum - vts.getD k 0 * S)) fun k hk => by
    rw [hm k hk]
    by_cases e1 : k = b
    · subst e1; rw [if_neg (Ne.symm hab), if_pos rfl, if_pos rfl]; simp
    · rw [if_neg e1, if_neg e1]
      by_cases e2 : k = a
      · subst e2; rw [if_pos rfl, if_pos rfl]; simp
      · rw [if_neg e2, if_neg e2]; simp]
  rw [sm_upd hb, sm_upd ha, if_neg (Ne.symm hab)]
  have hra := rem_bnd h ha
  have hrb := rem_bnd h hb
  have hca := hc a ha
  have hcb := hc b hb
  rw [hca, hcb]
  rw [show (flL vts S).getD b 0 + (if c ≤ (remL vts S).getD b 0 then 1 else 0) + 1 = (flL vts S).getD b 0 + ((if c ≤ (remL vts S).getD b 0 then 1 else 0) + 1) by omega, show (flL vts S).getD a 0 + (if c ≤ (remL vts S).getD a 0 then 1 else 0) - 1 = (flL vts S).getD a 0 + ((if c ≤ (remL vts S).getD a 0 then 1 else 0) - 1) by omega]
  rw [d_at ha, d_at ha, d_at hb, d_at hb]
  generalize (remL vts S).getD a 0 = ra at *
  generalize (remL vts S).getD b 0 = rb at *
  generalize vts.sum = T at *
  generalize sm vts.length _ = X
  have h2 : ((1 : Int) + 1) * T = T + T := by omega
  have h1 : ((0 : Int) + 1) * T = T := by omega
  have h3 : ((0 : Int) - 1) * T = -T := by omega
  have h4 : ((1 : Int) - 1) * T = 0 := by omega
  have h5 : (1 : Int) * T = T := by omega
  have h6 : (0 : Int) * T = 0 := by omega
  unfold absI
  by_cases qa : c ≤ ra <;> by_cases qb : c ≤ rb <;> simp only [qa, qb, if_true, if_false, h1, h2, h3, h4, h5, h6] <;> (repeat' split) <;> omega
end
end
section
def scopeOk1 (scope : Scope) (wv : Str) : Bool := scope.kind == .function && (scope.names.filter (fun y => y.2 == .cell)).map (·.1) == [wv] && scope.names.all (fun y => y.2 != .local || scope.names.lookup y.1 == some .local) && scope.names.lookup wv == some .cell
theorem cells_one : ∀ {names : List (Str × NameKind)} {wv : Str} {n : Nat} {acc : List (Str × Addr)}, (names.filter (fun y => y.2 == .cell)).map (·.1) = [wv] → cellsFrom n names acc = (wv, n) :: acc
  | [], _, _, _, h => by simp at h
  | (x, k) :: r, wv, n, acc, h => by
    unfold cellsFrom
    by_cases hk : k == .cell
    · rw [if_pos hk]
      rw [List.filter_cons_of_pos (by simpa using hk), List.map_cons] at h
      injection h with h1 h2
      simp only at h1
      subst h1
      have : ∀ (names : List (Str × NameKind)) n acc, (names.filter (fun y => y.2 == .cell)).map (·.1) = [] → cellsFrom n names acc = acc := by
        intro names
        induction names with
        | nil => intros; rfl
        | cons a r ih =>
          intro n acc h
          obtain ⟨x, k⟩ := a
          unfold cellsFrom
          by_cases hk : k == .cell
          · rw [List.filter_cons_of_pos (by simpa using hk)] at h; simp at h
          · rw [if_neg hk]
            rw [List.filter_cons_of_neg (by simpa using hk)] at h
            exact ih n acc h
      exact this r _ _ h2
    · rw [if_neg hk]
      rw [List.filter_cons_of_neg (by simpa using hk)] at h
      exact cells_one h
theorem push_one : ∀ {names : List (Str × NameKind)} {wv : Str} {h : Heap}, (names.filter (fun y => y.2 == .cell)).map (·.1) = [wv] → pushCells h names = h.push { cls := .type "cell", data := .cell none }
  | [], _, _, h => by simp at h
  | (x, k) :: r, wv, hp, h => by
    unfold pushCells
    by_cases hk : k == .cell
    · rw [if_pos hk]
      rw [List.filter_cons_of_pos (by simpa using hk), List.map_cons] at h
      injection h with h1 h2
      have : ∀ (names : List (Str × NameKind)) h, (names.filter (fun y => y.2 == .cell)).map (·.1) = [] → pushCells h names = h := by
        intro names
        induction names with
        | nil => intros; rfl
        | cons a r ih =>
          intro h hh
          obtain ⟨x, k⟩ := a
          unfold pushCells
          by_cases hk : k == .cell
          · rw [List.filter_cons_of_pos (by simpa using hk)] at hh; simp at hh
          · rw [if_neg hk]
            rw [List.filter_cons_of_neg (by simpa using hk)] at hh
            exact ih h hh
      exact this r _ h2
    · rw [if_neg hk]
      rw [List.filter_cons_of_neg (by simpa using hk)] at h
      exact push_one h
section
variable {w : World} {A : Around} {g : Heap} {z s s' : Shared} {M M' R : List Res} {env : Env}
theorem wpAny_newFunctionEnv1 {Mo : Model} {E : Value → Shared → Prop} {scope : Scope} {globals : Addr} {clos : List (Str × Addr)} {qual : Str} {outer : Env} {wv : Str} {Q : Env → Shared → Prop} (hc : (scope.names.filter (fun y => y.2 == .cell)).map (·.1) = [wv])
    (h : Q { scope, locals := s.heap.objs.size, globals, cells := (wv, s.heap.objs.size + 1) :: clos, qual, func := none, code := outer.code, frame := outer.frame, builtins := outer.builtins }
      { s with heap := (s.heap.push { cls := .type "dict", data := .dict #[] }).push { cls := .type "cell", data := .cell none } }) :
    wpAny Mo A (newFunctionEnv scope globals clos [] qual none .none (some outer)) Q E s := by
  simp only [newFunctionEnv, Option.isSome_some, if_true]
  refine wpAny_bind (wpAny_alloc ?_)
  refine wpAny_bind (wpAny_layCells _ (fun name kind cells => by cases hkc : kind == NameKind.cell <;> simp [hkc]) _ _ _ _ ?_)
  rw [cells_one hc, push_one hc]
  rw [show ({ s with heap := s.heap.push { cls := .type "dict", data := .dict #[] } } : Shared).heap.objs.size = s.heap.objs.size + 1 from Heap.size_push ..]
  exact wpAny_bind (wpAny_pure (wpAny_pure h))
/-- what a comprehension over an iterator computes -/
def CompBody1 (w : World) (A : Around) (g : Heap) (z : Shared) (target elt : Expr) (ifs : List Expr) (scope : Scope) (env : Env) (wv : Str) (n : Nat) (P : Nat → Value → Prop) (I : Nat → Res) (J : Nat → List Value → List Res → Prop) : Prop :=
  ∀ C D l i ys M v s, l.map (·.1) = [wv] → i < n → J i ys M → P i v → Hs g z (frR C [(wv, C + 1)] l :: I (i + 1) :: lR D ys :: M) s →
    W w A (assign target (compEnvC scope ((wv, C + 1) :: closOf scope.names env.cells) C env) v) (fun _ s₁ =>
      W w A (forIn ifs true fun c r => if r = true then do let ok ← isTrue c (compEnvC scope ((wv, C + 1) :: closOf scope.names env.cells) C env) (eval c (compEnvC scope ((wv, C + 1) :: closOf scope.names env.cells) C env)); pure (ForInStep.yield ok) else pure (ForInStep.yield r)) (fun ok s₂ =>
        if ok = true then W w A (eval elt (compEnvC scope ((wv, C + 1) :: closOf scope.names env.cells) C env)) (fun y s₃ => ∃ l' M', l'.map (·.1) = [wv] ∧ J (i + 1) (ys ++ [y]) M' ∧ Hs g z (frR C [(wv, C + 1)] l' :: I (i + 1) :: lR D ys :: M') s₃) s₂
        else ∃ l' M', l'.map (·.1) = [wv] ∧ J (i + 1) ys M' ∧ Hs g z (frR C [(wv, C + 1)] l' :: I (i + 1) :: lR D ys :: M') s₂) s₁) s
theorem frR_but1 {C : Addr} {l : List (Str × Option Value)} {h' : Heap} {t : Nat} (H : Hs g z (frR C [(wv, C + 1)] l :: M) s) (hs : Heap.SameBut C s.heap h') : Hs g z M { s with heap := h', toks := t } :=
  H.lose fun b o nf e => (hs.2 b fun q => nf (.inl q)).trans e
theorem comp_core1 {elt target iter : Expr} {ifs : List Expr} {scope : Scope} {pos : Pos} {it : Value} {wv : Str} {n : Nat} {P : Nat → Value → Prop} {I : Nat → Res} {N : Heap → Prop} {J : Nat → List Value → List Res → Prop} {M₀ : List Res} {use : Option (Value → Sem Unit)} {Q : Value → Shared → Prop}
    (ok : scopeOk1 scope wv = true) (It : Iter w A it n P I N) (j0 : J 0 [] M₀) (H : Hs g z (I 0 :: M₀) s) (hN : ∀ i ys M s, J i ys M → Hs g z M s → N s.heap) (hsz : n ≤ 10000)
    (hlen : ∀ i ys M, J i ys M → ys.length ≤ i)
    (body : CompBody1 w A g z target elt ifs scope env wv n P I J)
    (fin : ∀ C D l ys M s, l.map (·.1) = [wv] → J n ys M → Hs g z (frR C [(wv, C + 1)] l :: lR D ys :: M) s → compPost (model pr w) A (fun _ _ => False) use Q (.ref D) C (.ok .next) s) :
    W w A (newList []) (fun acc s₃ => W w A (newFunctionEnv scope env.globals (closOf scope.names env.cells) [] env.qual none .none (some env)) (fun cenv s₄ =>
      codeAny (model pr w) A (.compStart (.ListComp elt [⟨target, iter, ifs, 0⟩] scope pos) 0 it acc { cenv with scope := relabel scope env }) (compPost (model pr w) A (fun _ _ => False) use Q acc cenv.locals) s₄) s₃) s := by
  unfold scopeOk1 at ok
  simp only [Bool.and_eq_true, beq_iff_eq] at ok
  obtain ⟨⟨⟨hkind, hcell⟩, hloc⟩, hwv⟩ := ok
  refine wpAny_newObj_type (wpAny_newFunctionEnv1 hcell ?_)
  have H1 : Hs g z (lR s.heap.objs.size [] :: I 0 :: M₀) { s with heap := s.heap.push { cls := .type "list", data := .seq ([] : List Value).toArray } } := new_obj H ⟨0, rfl⟩ rfl s.toks
  generalize hs1 : ({ s with heap := s.heap.push { cls := .type "list", data := .seq ([] : List Value).toArray } } : Shared) = s1 at *
  have hC0 := fresh_size s1
  have hC1 : s1.heap.get? (s1.heap.objs.size + 1) = none := by
    cases q : s1.heap.get? (s1.heap.objs.size + 1) with
    | none => rfl
    | some o => exact absurd (Heap.lt_size q) (Nat.not_lt.mpr (Nat.le_succ _))
  have H2 := H1.new (r := frR s1.heap.objs.size [(wv, s1.heap.objs.size + 1)] [(wv, none)]) (s' := { s1 with heap := (s1.heap.push { cls := .type "dict", data := .dict #[] }).push { cls := .type "cell", data := .cell none } })
    ⟨_, s1.toks, rfl, fun b o e => Heap.get?_push_of_some _ (Heap.get?_push_of_some _ e)⟩ (by
      rintro b (rfl | ⟨x, hx, e⟩)
      · exact hC0
      · rw [List.mem_singleton.mp hx] at e
        simp at e
        subst e
        exact hC1) ⟨⟨fun _ => none, (Heap.Ns.new s1.heap (.type "dict")).keeps (fun b o e => Heap.get?_push_of_some _ e), fun p hp e => by rw [List.mem_singleton.mp hp]⟩, fun p hp c e => by
        rw [List.mem_singleton.mp hp] at e ⊢
        simp at e
        subst e
        refine ⟨?_, Nat.succ_ne_self _⟩
        have := Heap.get?_push_size (h := s1.heap.push { cls := .type "dict", data := .dict #[] }) (o := { cls := .type "cell", data := .cell none }) rfl
        rw [Heap.size_push] at this
        exact ⟨_, this, rfl⟩, fun p hp q hq _ _ _ => by rw [List.mem_singleton.mp hp, List.mem_singleton.mp hq], by simp⟩
  generalize s1.heap.objs.size = C at *
  generalize s.heap.objs.size = D at *
  have loop : ∀ s₃, Hs g z (frR C [(wv, C + 1)] [(wv, none)] :: lR D [] :: I 0 :: M₀) s₃ →
      codeAny (model pr w) A (.compLoop (.ListComp elt [⟨target, iter, ifs, 0⟩] scope pos) 0 it (.ref D) (compEnvC scope ((wv, C + 1) :: closOf scope.names env.cells) C env)) (compPost (model pr w) A (fun _ _ => False) use Q (.ref D) C) s₃ := by
    intro s₃ H
    refine codeAny_loop rfl (fun m s => ∃ i l ys M, m = n - i ∧ i ≤ n ∧ l.map (·.1) = [wv] ∧ J i ys M ∧ Hs g z (frR C [(wv, C + 1)] l :: I i :: lR D ys :: M) s) (fun m s hI => ?_) n
      ⟨0, [(wv, none)], [], M₀, rfl, Nat.zero_le _, rfl, j0, H.sub (by walk_at "m_sub")⟩
    obtain ⟨i, l, ys, M, rfl, hi, hl, hJ, H⟩ := hI
    show wpAny _ A ((compTurn (.ListComp elt [⟨target, iter, ifs, 0⟩] scope pos) 0 it (.ref D) (compEnvC scope ((wv, C + 1) :: closOf scope.names env.cells) C env)).onRaise (fun x => do noteFrame x (compEnvC scope ((wv, C + 1) :: closOf scope.names env.cells) C env); theTreesLotGoes x)) _ _ _
    refine wpAny_noted ?_
    rw [compTurn_list]
    have hNs := hN i ys M _ hJ (H.sub (by exact Sub.drop (Sub.drop (Sub.drop Sub.refl))))
    have H0 := H.sub (xs := I i :: frR C [(wv, C + 1)] l :: lR D ys :: M) (by walk_at "m_sub")
    refine wpAny_bind (wpAny_standAt (wpAny_bind ?_))
    rcases Nat.lt_or_eq_of_le hi with hlt | rfl
    · refine W.any (It.next g z i _ _ _ hlt hNs H0 fun v s' hv H => ?_)
      refine wpAny_bind (W.any (It.go g z i _ s' target v _ hv H fun s' H => ?_))
      have H := H.sub (xs := frR C [(wv, C + 1)] l :: I (i + 1) :: lR D ys :: M) (by walk_at "m_sub")
      refine wpAny_bind (W.any (wpAny_mono (body C D l i ys M v s' hl hlt hJ hv H) (fun _ s₁ h₁ => ?_) fun _ _ f => f))
      refine wpAny_bind (W.any (wpAny_mono h₁ (fun ok s₂ h₂ => ?_) fun _ _ f => f))
      cases ok with
      | false =>
        obtain ⟨l', M', e', j', H'⟩ := h₂
        exact wpAny_pure ⟨rfl, n - (i + 1), by omega, i + 1, l', ys, M', rfl, hlt, e', j', H'⟩
      | true =>
        refine wpAny_bind (wpAny_bind (W.any (wpAny_mono h₂ (fun y s₃ h₃ => ?_) fun _ _ f => f)))
        obtain ⟨l', M', e', j', H'⟩ := h₃
        obtain ⟨nn, e⟩ := qR_at (a := D) H' (by walk_at "m_take")
        have hys := hlen _ _ _ hJ
        have hsl : sizeLine = 2 ^ 24 := rfl
        refine wpAny_bind (W.any (wpAny_list_append_plain (items := ys.toArray) ⟨nn, e⟩ (fun h' hp hs' => ?_) (by simp; omega)))
        obtain ⟨nn', e2⟩ := hp
        have H3 := (H'.take (x := lR D ys) (by walk_at "m_take")).put (r := lR D (ys ++ [y])) (h' := h') (t := s₃.toks) (fun b f => f) (fun b o nf e => (hs'.2 b nf).trans e) ⟨_, e2, nn', by simp⟩
        exact wpAny_pure (wpAny_pure ⟨rfl, n - (i + 1), by omega, i + 1, l', ys ++ [y], M', rfl, hlt, e', j', H3.sub (by walk_at "m_sub")⟩)
    · refine W.any (It.done g z _ _ _ hNs H0 fun s' H => ?_)
      exact wpAny_pure (fin C D l ys M s' hl hJ H)
  exact codeAny_compStart_list (loop _ H2) (It.self g z 0 _ _ _ (H2.sub (xs := I 0 :: frR C [(wv, C + 1)] [(wv, none)] :: lR D [] :: M₀) (by walk_at "m_sub")) (loop _ H2)).any
/-- a list comprehension -/
theorem comp1_ {elt target iter : Expr} {ifs : List Expr} {scope : Scope} {pos : Pos} {Q : Value → Shared → Prop} (wv : Str)
    (h : W w A (eval iter env) (fun xv s₁ => W w A (pyIter xv) (fun it s₂ => ∃ g z n P I N, ∃ (J : Nat → List Value → List Res → Prop) (M₀ : List Res), Iter w A it n P I N ∧ J 0 [] M₀ ∧ Hs g z (I 0 :: M₀) s₂ ∧ n ≤ 10000 ∧
      (∀ i ys M s, J i ys M → Hs g z M s → N s.heap) ∧ (∀ i ys M, J i ys M → ys.length ≤ i) ∧ CompBody1 w A g z target elt ifs scope env wv n P I J ∧
      (∀ D ys M s, J n ys M → Hs g z (lR D ys :: M) s → Q (.ref D) s)) s₁) s)
    (ok : scopeOk1 scope wv = true := by kernel_rfl) (hclos : closureFor scope env = pure (closOf scope.names env.cells) := by kernel_rfl) (hs : ∀ x, foldedSetIterable iter env x = pure x := by intro _; rfl) :
    W w A (eval (.ListComp elt [⟨target, iter, ifs, 0⟩] scope pos) env) Q s := by
  have ok' := ok
  unfold scopeOk1 at ok'
  simp only [Bool.and_eq_true, beq_iff_eq, List.all_eq_true, bne_iff_ne, ne_eq, Bool.or_eq_true] at ok'
  obtain ⟨⟨⟨hkind, hcell⟩, hloc⟩, hwv⟩ := ok'
  rw [eval_ListComp]
  refine wpAny_comprehension_free (use := none) rfl hs hclos hkind (fun x hx hl => (hloc x hx).resolve_left fun q => q hl) (wpAny_mono h (fun xv s₁ h₁ => wpAny_mono h₁ (fun it s₂ h₂ => ?_) fun _ _ f => f) fun _ _ f => f)
  obtain ⟨g, z, n, P, I, N, J, M₀, It, j0, H, hsz, hN, hlen, body, done⟩ := h₂
  refine comp_core1 ok It j0 H hN hsz hlen body fun C D l ys M s hl hJ H => ?_
  obtain ⟨⟨m, hm, _⟩, _⟩ := H.get Take.head
  exact ⟨m, hm, fun h' hs' => done D ys M _ hJ (frR_but1 H hs')⟩
/-- a list comprehension whose list a name takes at once -/
theorem asg_comp1_ {elt target iter : Expr} {ifs : List Expr} {scope : Scope} {pos spos py : Pos} {y : Str} {Q : Flow → Shared → Prop} (wv : Str)
    (h : W w A (eval iter env) (fun xv s₁ => W w A (pyIter xv) (fun it s₂ => ∃ g z n P I N, ∃ (J : Nat → List Value → List Res → Prop) (M₀ : List Res), Iter w A it n P I N ∧ J 0 [] M₀ ∧ Hs g z (I 0 :: M₀) s₂ ∧ n ≤ 10000 ∧
      (∀ i ys M s, J i ys M → Hs g z M s → N s.heap) ∧ (∀ i ys M, J i ys M → ys.length ≤ i) ∧ CompBody1 w A g z target elt ifs scope env wv n P I J ∧
      (∀ C l D ys M s, J n ys M → Hs g z (frR C [(wv, C + 1)] l :: lR D ys :: M) s → W w A (storeName env y (.ref D)) (fun _ s' => ∃ M', Hs g z (frR C [(wv, C + 1)] l :: M') s' ∧ ∀ s'', Hs g z M' s'' → Q .next s'') s)) s₁) s)
    (hsw : swapsWith (.ListComp elt [⟨target, iter, ifs, 0⟩] scope pos) (some (.Name y py)) spos.line env = pure true := by kernel_rfl)
    (ok : scopeOk1 scope wv = true := by kernel_rfl) (hclos : closureFor scope env = pure (closOf scope.names env.cells) := by kernel_rfl) (hs : ∀ x, foldedSetIterable iter env x = pure x := by intro _; rfl) :
    W w A (exec (.Assign [.Name y py] (.ListComp elt [⟨target, iter, ifs, 0⟩] scope pos) spos) env) Q s := by
  have ok' := ok
  unfold scopeOk1 at ok'
  simp only [Bool.and_eq_true, beq_iff_eq, List.all_eq_true, bne_iff_ne, ne_eq, Bool.or_eq_true] at ok'
  obtain ⟨⟨⟨hkind, hcell⟩, hloc⟩, hwv⟩ := ok'
  rw [exec_Assign_Name_used _ _ _ _ hsw]
  refine wpAny_bind (wpAny_standAt (wpAny_bind ?_))
  show wpAny _ A (do let _ ← comprehension (.ListComp elt [⟨target, iter, ifs, 0⟩] scope pos) scope env _ (newList []) false (eval iter env) (some (assign (.Name y py) env))) _ _ s
  refine wpAny_bind (wpAny_mono (wpAny_comprehension_free (use := some (assign (.Name y py) env)) (Q := fun _ s' => Q .next s') rfl hs hclos hkind (fun x hx hl => (hloc x hx).resolve_left fun q => q hl)
    (wpAny_mono h (fun xv s₁ h₁ => wpAny_mono h₁ (fun it s₂ h₂ => ?_) fun _ _ f => f) fun _ _ f => f)) (fun _ s' hq => wpAny_pure (wpAny_pure hq)) fun _ _ e => e)
  obtain ⟨g, z, n, P, I, N, J, M₀, It, j0, H, hsz, hN, hlen, body, done⟩ := h₂
  refine comp_core1 ok It j0 H hN hsz hlen body fun C D l ys M s hl hJ H => ?_
  show wpAny _ A (assign (.Name y py) env (.ref D)) _ _ _
  refine wpAny_assign_Name (wpAny_mono (done C l D ys M s hJ H) (fun _ s' h => ?_) fun _ _ f => f)
  obtain ⟨M', H', q⟩ := h
  obtain ⟨⟨m, hm, _⟩, _⟩ := H'.get Take.head
  exact ⟨m, hm, fun h' hs' => q _ (frR_but1 H' hs')⟩
end
end
section
section
variable {w : World} {A : Around} {g : Heap} {z s s' : Shared} {M M' R : List Res} {env : Env}
/-- the script, which stands in the base heap -/
def ScriptAt (g : Heap) (scA : Addr) (scr : List Int) : Prop := ∃ vs, IntsAre vs scr ∧ g.IsList scA (vs : List Value).toArray
theorem len_any {ax : Addr} {vs : List Value} {Q : Value → Shared → Prop} (H : Hs g z M s) (e : s.heap.IsList ax vs.toArray) (hsz : vs.length ≤ sizeLine) (q : ∀ t s', Hs g z M s' → Q (.int vs.length t) s') : W w A (call (.builtin "len") [.ref ax]) Q s := by
  have hl : sizeLine = 2 ^ 24 := rfl
  refine call_len_list (items := vs.toArray) e (by simp; omega) ?_
  have := q (s.toks + 1) _ (H.tok (s.toks + 1 + 1))
  simpa using this
theorem sub_lst2 {value slice : Expr} {pos : Pos} {Q : Value → Shared → Prop}
    (h : W w A (eval value env) (fun o s₁ => W w A (eval slice env) (fun i s₂ => ∃ a k u vs, o = .ref a ∧ i = .int k u ∧ s₂.heap.IsList a (vs : List Value).toArray ∧ W w A (getItem o i) Q s₂) s₁) s)
    (he : ∀ o i, subscripted slice false o i = operate [o, i] (getItem o i) := by intro _ _; rfl) : W w A (eval (.Subscript value slice pos) env) Q s := by
  refine sub_any (wpAny_mono h (fun o s₁ h₁ => wpAny_mono h₁ (fun i s₂ h₂ => ?_) fun _ _ f => f) fun _ _ f => f) he
  obtain ⟨a, k, u, vs, rfl, rfl, ⟨ob, e, hc, _⟩, q⟩ := h₂
  unfold getitemInPython
  exact wpAny_bind (wpAny_specialOf (T := "list") ⟨ob, e, hc⟩ PySem.F.slot_list_getitem.lookup (wpAny_pure ⟨rfl, q⟩))
theorem fn_at {n k : Nat} {scA : Addr} {scr : List Int} {o : Int} {tk to : Tok} {Q : Value → Shared → Prop} (hS : ScriptAt g scA scr) (hlen : scr.length ≤ 1000) (hk : k ≤ 1000) (hA : Ok (n + 1) A) (B : Base w g) (H : Hs g z M s) (q : ∀ t s', Hs g z M s' → Q (.int (scr.getD k o) t) s') :
    W w A (call (.ref 472) [.ref scA, .int k tk, .int o to]) Q s := by
  have hsl : sizeLine = 2 ^ 24 := rfl
  obtain ⟨vs, hi, ob, eo, hoc, nn, hod⟩ := hS
  have hvl := nm_len hi
  have hb : BindsTo s (fdOf w 472) ⟨[.ref scA, .int k tk, .int o to], []⟩ [("script", .ref scA), ("k", .int k tk), ("other", .int o to)] := BindsTo.of_eq (by kernel_rfl)
  refine call_fn (k := n) (l := [("script", some (.ref scA)), ("k", some (.int k tk)), ("other", some (.int o to))]) hA B H hb ?_
  intro L s' H hA'
  with_unfolding_all refine wpAny_execs_cons ?_
  refine wpAny_Return_some ?_
  refine wpAny_IfExp (wpAny_isTrue_Compare1 ?_)
  refine nmL (by assumption) (by walk_at "m_take") (by walk_at "m_mem") ?_
  refine Call_Name1 ?_
  refine nmB (v := .builtin "len") B H ?_
  refine cw1 ?_
  refine nmL (by assumption) (by walk_at "m_take") (by walk_at "m_mem") ?_
  refine len_any H ⟨ob, H.base _ _ eo, hoc, nn, hod⟩ (by omega) fun t1 s1 H => ?_
  refine PySem.P.lt_int (wpAny_truthy_bool ?_)
  by_cases hlt : k < scr.length
  · rw [if_pos (by simp; omega)]
    refine sub_lst2 ?_
    refine nmL (by assumption) (by walk_at "m_take") (by walk_at "m_mem") ?_
    refine nmL (by assumption) (by walk_at "m_take") (by walk_at "m_mem") ?_
    refine ⟨scA, k, tk, vs, rfl, rfl, ⟨ob, H.base _ _ eo, hoc, nn, hod⟩, ?_⟩
    have hv : vs[k]? = some vs[k] := List.getElem?_eq_getElem (by omega)
    obtain ⟨y, ty, hy, ey⟩ := nm_get hi hv
    rw [ey] at hv
    refine wpAny_getItem_list (items := vs.toArray) ⟨ob, H.base _ _ eo, hoc, nn, hod⟩ (by omega) (by omega) (by simpa using hv) ?_
    have := q ty _ H.drop
    rwa [List.getD_eq_getElem?_getD, hy] at this
  · rw [if_neg (by simp; omega)]
    refine nmL (by assumption) (by walk_at "m_take") (by walk_at "m_mem") ?_
    have := q to _ H.drop
    rwa [List.getD_eq_getElem?_getD, List.getElem?_eq_none (by omega)] at this
theorem fn_solver {n : Nat} {p : Int} {tp : Tok} {Q : Value → Shared → Prop} (hA : Ok (n + 12) A) (B : Base w g) (H : Hs g z M s)
    (q : ∀ (C f sv sd : Addr) (fb : Bool) s', (C = 239 ∧ f = 236 ∨ C = 278 ∧ f = 275) → Hs g z (iR sv C sd :: fcR sd fb :: M) s' → Q (.ref sv) s') : W w A (call (.ref 479) [.int p tp]) Q s := by
  have hsl : sizeLine = 2 ^ 24 := rfl
  have hb : BindsTo s (fdOf w 479) ⟨[.int p tp], []⟩ [("number", .int p tp)] := BindsTo.of_eq (by kernel_rfl)
  refine call_fn (k := n + 11) (l := [("number", some (.int p tp))]) hA B H hb ?_
  intro L s' H hA'
  with_unfolding_all refine wpAny_execs_cons ?_
  refine wpAny_Return_some ?_
  refine sub_l ?_
  refine Mine.list_ (spliced_cons ?_)
  refine Call_Name1 ?_
  refine nmG (v := .ref 239) B H ?_
  refine cwK rfl (evalArgs1 ?_)
  refine wpAny_Constant_bool (k := 0) (pos := ⟨0, 0, 0, 0⟩) ?_
  refine ⟨rfl, B.x H, ?_⟩
  refine mk_bt (k := n) (hA'.le (by omega)) B H fun x1 d1 s1 H => ?_
  refine spliced_cons ?_
  refine Call_Name1 ?_
  refine nmG (v := .ref 239) B H ?_
  refine cwK rfl (evalArgs1 ?_)
  refine wpAny_Constant_bool (k := 0) (pos := ⟨0, 0, 0, 0⟩) ?_
  refine ⟨rfl, B.x H, ?_⟩
  refine mk_bt (k := n) (hA'.le (by omega)) B H fun x2 d2 s2 H => ?_
  refine spliced_cons ?_
  refine Call_Name1 ?_
  refine nmG (v := .ref 278) B H ?_
  refine cwK rfl (evalArgs1 ?_)
  refine wpAny_Constant_bool (k := 0) (pos := ⟨0, 0, 0, 0⟩) ?_
  refine ⟨rfl, B.x H, ?_⟩
  refine mk_rec (k := n) (hA'.le (by omega)) B H fun x3 d3 s3 H => ?_
  refine spliced_cons ?_
  refine Call_Name1 ?_
  refine nmG (v := .ref 278) B H ?_
  refine cwK rfl (evalArgs1 ?_)
  refine wpAny_Constant_bool (k := 0) (pos := ⟨0, 0, 0, 0⟩) ?_
  refine ⟨rfl, B.x H, ?_⟩
  refine mk_rec (k := n) (hA'.le (by omega)) B H fun x4 d4 s4 H => ?_
  refine spliced_nil ?_
  refine ⟨g, z, _, H, by simp; omega, fun lA s5 H => ?_⟩
  refine wpAny_BinOp ?_
  refine nmL (by assumption) (by walk_at "m_take") (by walk_at "m_mem") ?_
  refine con_ H fun t6 s6 H => ?_
  refine mod_ H (by decide) fun t7 s7 H => ?_
  have hm0 := Int.fmod_nonneg_of_pos p (show (0 : Int) < 4 by decide)
  have hm1 := Int.fmod_lt_of_pos p (show (0 : Int) < 4 by decide)
  have hc : p.fmod 4 = 0 ∨ p.fmod 4 = 1 ∨ p.fmod 4 = 2 ∨ p.fmod 4 = 3 := by omega
  rcases hc with hc | hc | hc | hc
  · rw [hc]; exact ⟨g, z, _, _, lA, 0, t7, _, .ref x1, rfl, rfl, H, Take.head, by decide, by decide, rfl, q 239 236 x1 d1 true s7 (.inl ⟨rfl, rfl⟩) (H.sub (by walk_at "m_sub"))⟩
  · rw [hc]; exact ⟨g, z, _, _, lA, 1, t7, _, .ref x2, rfl, rfl, H, Take.head, by decide, by decide, rfl, q 239 236 x2 d2 false s7 (.inl ⟨rfl, rfl⟩) (H.sub (by walk_at "m_sub"))⟩
  · rw [hc]; exact ⟨g, z, _, _, lA, 2, t7, _, .ref x3, rfl, rfl, H, Take.head, by decide, by decide, rfl, q 278 275 x3 d3 true s7 (.inr ⟨rfl, rfl⟩) (H.sub (by walk_at "m_sub"))⟩
  · rw [hc]; exact ⟨g, z, _, _, lA, 3, t7, _, .ref x4, rfl, rfl, H, Take.head, by decide, by decide, rfl, q 278 275 x4 d4 false s7 (.inr ⟨rfl, rfl⟩) (H.sub (by walk_at "m_sub"))⟩
/-- a solution's dict is read -/
theorem sub_sol {value slice : Expr} {pos : Pos} {Q : Value → Shared → Prop}
    (h : W w A (eval value env) (fun o s₁ => W w A (eval slice env) (fun i s₂ => ∃ g z M M' Y r k t v, o = .ref r.1 ∧ i = .int k t ∧ Hs g z M s₂ ∧ Take (solsR w Y) M M' ∧ r ∈ Y ∧ valueAt r.2 k = some v ∧ ∀ s₃, Hs g z M s₃ → Q v s₃) s₁) s)
    (he : ∀ o i, subscripted slice false o i = operate [o, i] (getItem o i) := by intro _ _; rfl) : W w A (eval (.Subscript value slice pos) env) Q s := by
  refine sub_any (wpAny_mono h (fun o s₁ h₁ => wpAny_mono h₁ (fun i s₂ h₂ => ?_) fun _ _ f => f) fun _ _ f => f) he
  obtain ⟨g, z, M, M', Y, r, k, t, v, rfl, rfl, H, tk, hr, hv, q⟩ := h₂
  have hx := (H.get tk).1 (dX w r.1 r.2) (List.mem_map_of_mem hr)
  obtain ⟨o, ho, hs, ep, es, rest⟩ := hx
  have hd : s₂.heap.DictAt (IK w) r.1 r.2 ep := ⟨o, es, ho, rest⟩
  unfold getitemInPython
  refine wpAny_bind (wpAny_specialOf hd.dictOf.typeIs PySem.F.slot_dict_getitem.lookup (wpAny_pure ⟨rfl, ?_⟩))
  exact wpAny_getItem_of (intKind_is pr w k t) hd.dictOf.mapOf hv (q _ (H.tok _))
theorem z_list {l : Addr} {ns : List Int} {Q : Value → Shared → Prop} (H : Hs g z M s) (t : Take (zR l ns) M M') (hl : ns.length ≤ 1000) (q : ∀ a s', Hs g z (zR a ns :: M) s' → Q (.ref a) s') : W w A (call (.type "list") [.ref l]) Q s := by
  obtain ⟨vs, n, hi, e⟩ := z_at H t
  have hvl := nm_len hi
  have hsl : sizeLine = 2 ^ 24 := rfl
  refine call_list_seq l (.inl rfl) e rfl rfl (fun h' c' hk hS => ?_) (by simp; omega)
  exact q _ _ (H.new ⟨h', s.toks, rfl, hk⟩ (fun b f => f ▸ fresh_size s) ⟨_, hS, vs, c', hi, rfl⟩)
theorem z_range {n : Nat} {r : Addr} {Q : Value → Shared → Prop} (hh : A.handled = none) (H : Hs g z M s) (t : Take (roR r n) M M') (hn : n ≤ 1000) (q : ∀ a s', Hs g z (zR a (List.map (fun i : Nat => (i : Int)) (List.range n)) :: M) s' → Q (.ref a) s') : W w A (call (.type "list") [.ref r]) Q s := by
  obtain ⟨o, ho, a, b, c, rfl⟩ := H.get t
  refine call_list_range (a := 0) (b := n) (c := 1) (n := n) hh ho (small_one (by omega) (by omega) (by omega) (by omega)) (by rw [rangeSize_one]; split <;> omega) (by omega) fun h' tk acc' c' hk hS hacc => ?_
  refine q _ _ (H.new ⟨h', tk, rfl, hk⟩ (fun b f => f ▸ fresh_size s) ⟨_, hS, acc'.toList, c', ?_, by simp⟩)
  refine PySem.W.kdy_ints (by rw [Array.length_toList, hacc.1]; simp) fun j v e => ?_
  obtain ⟨t, rfl⟩ := hacc.2 j v (by rw [← Array.getElem?_toList]; exact e)
  have hj : j < n := by
    have := (List.getElem?_eq_some_iff.mp e).1
    rw [Array.length_toList, hacc.1] at this; exact this
  exact ⟨_, by rw [List.getElem?_map, List.getElem?_range hj]; rfl, t, by simp⟩
theorem ints_fun : ∀ {vs : List Value} {a b : List Int}, IntsAre vs a → IntsAre vs b → a = b
  | _, _, _, .nil, .nil => rfl
  | _, _, _, .cons n t r, h => by
    cases h with
    | cons _ _ r' => rw [ints_fun r r']
def zsR (l : List (Addr × List Int)) : Res := sR (l.map fun p => zR p.1 p.2)
theorem zs_nil (H : Hs g z M s) : Hs g z (zsR [] :: M) s := Hs.shut (l := []) H
theorem zs_add {l : List (Addr × List Int)} {a : Addr} {ns : List Int} (H : Hs g z M s) (pk : Pick M [zR a ns, zsR l] R) : Hs g z (zsR (l ++ [(a, ns)]) :: R) s := by
  have H : Hs g z (zR a ns :: zsR l :: R) s := H.pick pk
  have H1 := Hs.open_ (H.perm (List.Perm.swap _ _ _))
  refine Hs.shut (l := (l ++ [(a, ns)]).map fun p => zR p.1 p.2) ?_
  rw [List.map_append, List.append_assoc]
  exact H1
theorem zs_at {l : List (Addr × List Int)} (H : Hs g z M s) (t : Take (zsR l) M M') {p : Addr × List Int} (hp : p ∈ l) : ∃ vs n, IntsAre vs p.2 ∧ s.heap.get? p.1 = some ⟨.type "list", none, .seq (vs : List Value).toArray n, #[]⟩ := by
  obtain ⟨o, e, vs, n, hi, rfl⟩ := (H.get t).1 (zR p.1 p.2) (List.mem_map_of_mem hp)
  exact ⟨vs, n, hi, e⟩
theorem ints_eq_at {a b : Addr} {us vs : List Value} {xs ys : List Int} {n m : Nat} (hu : A.units < cLine) (hne : a ≠ b) (ha : s.heap.get? a = some ⟨.type "list", none, .seq us.toArray n, #[]⟩) (hi : IntsAre us xs) (hb : s.heap.get? b = some ⟨.type "list", none, .seq vs.toArray m, #[]⟩) (hj : IntsAre vs ys) :
    SeqAt.EqAt A s (.ref a) (.ref b) (decide (xs = ys)) := by
  have h1 := nm_len hi
  have h2 := nm_len hj
  refine SeqAt.EqAt.of_refs hne ?_
  by_cases hl : us.length = vs.length
  · have hr := SeqAt.RcAt.lists (A := A) (s := s) (l := a) (b := b) (items := us.toArray) (items2 := vs.toArray) (e := fun j => decide (xs.getD j 0 = ys.getD j 0)) ⟨_, ha, rfl, n, rfl⟩ ⟨_, hb, rfl, m, rfl⟩ (by simpa using hl) hu fun j h3 h4 => by
      simp only [List.size_toArray] at h3 h4
      obtain ⟨x, tx, hx, ex⟩ := nm_get hi (List.getElem?_eq_getElem h3)
      obtain ⟨y, ty, hy, ey⟩ := nm_get hj (List.getElem?_eq_getElem h4)
      rw [List.getElem_toArray, List.getElem_toArray, ex, ey]
      have := SeqAt.EqAt.int_int (A := A.in1) (s := s) x tx y ty
      rw [List.getD_eq_getElem?_getD, List.getD_eq_getElem?_getD, hx, hy]
      have e : (x == y) = decide (x = y) := rfl
      rw [e] at this
      exact this
    have e : (List.range us.toArray.size).all (fun j => decide (xs.getD j 0 = ys.getD j 0)) = decide (xs = ys) := by
      rw [Bool.eq_iff_iff, List.all_eq_true, decide_eq_true_iff]
      constructor
      · intro h
        refine List.ext_getElem (by omega) fun j h3 h4 => ?_
        have := h j (List.mem_range.mpr (by simp; omega))
        rw [decide_eq_true_iff, List.getD_eq_getElem?_getD, List.getD_eq_getElem?_getD, List.getElem?_eq_getElem h3, List.getElem?_eq_getElem h4] at this
        exact this
      · rintro rfl j _; simp
    rw [e] at hr
    exact hr
  · rw [show decide (xs = ys) = false from decide_eq_false fun h => hl (by rw [h1, h2, h])]
    exact SeqAt.RcAt.lists_lengths ⟨_, ha, rfl, n, rfl⟩ ⟨_, hb, rfl, m, rfl⟩ (by simpa using hl) hu
theorem z_notin {tA W : Addr} {xs : List Int} {l : List (Addr × List Int)} {Q : Value → Shared → Prop} {k : Nat} (hA : Ok (k + 1) A) (H : Hs g z (zR tA xs :: zsR l :: M) s) (tk : Take (lR W (l.map fun p => .ref p.1)) M M') (q : Q (.bool (!decide (xs ∈ l.map (·.2)))) s) : Mine.W w A (compareOp .NotIn (.ref tA) (.ref W)) Q s := by
  classical
  obtain ⟨us, n, hi, e1⟩ := z_at H Take.head
  obtain ⟨m, e2⟩ := qR_at H (Take.tail (Take.tail tk))
  have hap : ∀ p ∈ l, p.1 ≠ tA := fun p hp e => by
    have := (List.pairwise_cons.mp H.dj).1 (zsR l) List.mem_cons_self p.1
    exact this e ⟨_, List.mem_map_of_mem hp, rfl⟩
  refine SeqAt.notIn_listAt (fun y => decide (∃ p ∈ l, y = .ref p.1 ∧ p.2 = xs)) ⟨_, e2, rfl, m, rfl⟩ (fun y hy => ?_) ?_
  · rw [List.mem_toArray] at hy
    obtain ⟨p, hp, rfl⟩ := List.mem_map.mp hy
    obtain ⟨vs, m2, hj, e3⟩ := zs_at H (Take.tail Take.head) hp
    have := ints_eq_at (A := A.in1) hA.in1.units (hap p hp) e3 hj e1 hi
    rw [show decide (∃ p' ∈ l, Value.ref p.1 = .ref p'.1 ∧ p'.2 = xs) = decide (p.2 = xs) from decide_eq_decide.mpr ⟨fun ⟨p', hp', ee, ex⟩ => by
      obtain ⟨vs', m3, hj', e3'⟩ := zs_at H (Take.tail Take.head) hp'
      have ea : p.1 = p'.1 := by injection ee
      rw [← ea, e3] at e3'
      have ev : vs = vs' := by
        have := congrArg (fun o : Option Obj => match o with | some ⟨_, _, .seq a _, _⟩ => a.toList | _ => []) e3'
        simpa using this
      subst ev
      rw [ints_fun hj hj']; exact ex, fun ex => ⟨p, hp, rfl, ex⟩⟩]
    exact this
  · have e : ((l.map fun p => Value.ref p.1).toArray.any fun y => decide (∃ p ∈ l, y = .ref p.1 ∧ p.2 = xs)) = decide (xs ∈ l.map (·.2)) := by
      rw [Bool.eq_iff_iff, Array.any_eq_true', decide_eq_true_iff]
      constructor
      · rintro ⟨y, _, hy⟩
        obtain ⟨p, hp, _, ex⟩ := decide_eq_true_iff.mp hy
        exact List.mem_map.mpr ⟨p, hp, ex⟩
      · intro h
        obtain ⟨p, hp, ex⟩ := List.mem_map.mp h
        exact ⟨.ref p.1, List.mem_toArray.mpr (List.mem_map_of_mem hp), decide_eq_true ⟨p, hp, rfl, ex⟩⟩
    rw [e]; exact q
theorem z_ne {a b : Addr} {xs ys : List Int} {Q : Value → Shared → Prop} {k : Nat} (hA : Ok (k + 4) A) (H : Hs g z M s) (t1 : Take (zR a xs) M M') (t2 : Take (zR b ys) M R) (q : Q (.bool (!decide (xs = ys))) s) : W w A (compareOp .NotEq (.ref a) (.ref b)) Q s := by
  obtain ⟨us, n, hi, e1⟩ := z_at H t1
  obtain ⟨vs, m, hj, e2⟩ := z_at H t2
  exact ne_intsK ⟨_, e1, rfl, n, rfl⟩ hi ⟨_, e2, rfl, m, rfl⟩ hj (by have := hA.un; show A.units + 64 < 9900; omega) q
end
end
section
section
variable {w : World} {A : Around} {g : Heap} {z s s' : Shared} {M M' R : List Res} {env : Env}
/-- an iterator whose items are tuples of its own -/
structure Iter2 (w : World) (A : Around) (it : Value) (n : Nat) (P : Nat → Value → Prop) (I : Nat → Res) (Im Tv : Nat → Value → Res) (N : Heap → Prop) (target : Expr) : Prop where
  next : ∀ (g : Heap) (z : Shared) (i : Nat) (M : List Res) (s : Shared) (Q : Option Value → Shared → Prop), i < n → N s.heap → Hs g z (I i :: M) s → (∀ v s', P i v → Hs g z (Im i v :: M) s' → Q (some v) s') → W w A (pyNext it) Q s
  done : ∀ (g : Heap) (z : Shared) (M : List Res) (s : Shared) (Q : Option Value → Shared → Prop), N s.heap → Hs g z (I n :: M) s → (∀ s', Hs g z M s' → Q none s') → W w A (pyNext it) Q s
  self : ∀ (g : Heap) (z : Shared) (i : Nat) (M : List Res) (s : Shared) (Q : Value → Shared → Prop), Hs g z (I i :: M) s → Q it s → W w A (pyIter it) Q s
  go : ∀ (g : Heap) (z : Shared) (i : Nat) (M : List Res) (s : Shared) (v : Value) (Q : Unit → Shared → Prop), P i v → Hs g z (Im i v :: M) s → (∀ s', Hs g z (I (i + 1) :: Tv i v :: M) s' → Q () s') → W w A (letOwnedTupleGo target it v) Q s
/-- what a comprehension over an iterator computes -/
def CompBody2 (w : World) (A : Around) (g : Heap) (z : Shared) (target elt : Expr) (ifs : List Expr) (scope : Scope) (env : Env) (xs : List Str) (n : Nat) (P : Nat → Value → Prop) (I : Nat → Res) (Tv : Nat → Value → Res) (J : Nat → List Value → List Res → Prop) : Prop :=
  ∀ C D l i ys M v s, l.map (·.1) = xs → i < n → J i ys M → P i v → Hs g z (frR C [] l :: I (i + 1) :: lR D ys :: Tv i v :: M) s →
    W w A (assign target (compEnvC scope (closOf scope.names env.cells) C env) v) (fun _ s₁ =>
      W w A (forIn ifs true fun c r => if r = true then do let ok ← isTrue c (compEnvC scope (closOf scope.names env.cells) C env) (eval c (compEnvC scope (closOf scope.names env.cells) C env)); pure (ForInStep.yield ok) else pure (ForInStep.yield r)) (fun ok s₂ =>
        if ok = true then W w A (eval elt (compEnvC scope (closOf scope.names env.cells) C env)) (fun y s₃ => ∃ l' M', l'.map (·.1) = xs ∧ J (i + 1) (ys ++ [y]) M' ∧ Hs g z (frR C [] l' :: I (i + 1) :: lR D ys :: M') s₃) s₂
        else ∃ l' M', l'.map (·.1) = xs ∧ J (i + 1) ys M' ∧ Hs g z (frR C [] l' :: I (i + 1) :: lR D ys :: M') s₂) s₁) s
theorem frR_but2 {C : Addr} {l : List (Str × Option Value)} {h' : Heap} {t : Nat} (H : Hs g z (frR C [] l :: M) s) (hs : Heap.SameBut C s.heap h') : Hs g z M { s with heap := h', toks := t } :=
  H.lose fun b o nf e => (hs.2 b fun q => nf (.inl q)).trans e
theorem comp_core2 {elt target iter : Expr} {ifs : List Expr} {scope : Scope} {pos : Pos} {it : Value} {xs : List Str} {n : Nat} {P : Nat → Value → Prop} {I : Nat → Res} {Im Tv : Nat → Value → Res} {N : Heap → Prop} {J : Nat → List Value → List Res → Prop} {M₀ : List Res} {use : Option (Value → Sem Unit)} {Q : Value → Shared → Prop}
    (ok : scopeOk scope xs = true) (It : Iter2 w A it n P I Im Tv N target) (j0 : J 0 [] M₀) (H : Hs g z (I 0 :: M₀) s) (hN : ∀ i ys M s, J i ys M → Hs g z M s → N s.heap) (hsz : n ≤ 10000)
    (hlen : ∀ i ys M, J i ys M → ys.length ≤ i)
    (body : CompBody2 w A g z target elt ifs scope env xs n P I Tv J)
    (fin : ∀ C D l ys M s, l.map (·.1) = xs → J n ys M → Hs g z (frR C [] l :: lR D ys :: M) s → compPost (model pr w) A (fun _ _ => False) use Q (.ref D) C (.ok .next) s) :
    W w A (newList []) (fun acc s₃ => W w A (newFunctionEnv scope env.globals (closOf scope.names env.cells) [] env.qual none .none (some env)) (fun cenv s₄ =>
      codeAny (model pr w) A (.compStart (.ListComp elt [⟨target, iter, ifs, 0⟩] scope pos) 0 it acc { cenv with scope := relabel scope env }) (compPost (model pr w) A (fun _ _ => False) use Q acc cenv.locals) s₄) s₃) s := by
  unfold scopeOk at ok
  simp only [Bool.and_eq_true, beq_iff_eq, List.all_eq_true, bne_iff_ne, ne_eq] at ok
  obtain ⟨⟨⟨⟨hkind, hcell⟩, hloc⟩, hxs⟩, hnd⟩ := ok
  refine wpAny_newObj_type (wpAny_newFunctionEnv hcell (by intro y hy; simp at hy) (fun h₁ hns₁ hsb₁ => ?_) hkind)
  have H1 : Hs g z (lR s.heap.objs.size [] :: I 0 :: M₀) { s with heap := s.heap.push { cls := .type "list", data := .seq ([] : List Value).toArray } } := new_obj H ⟨0, rfl⟩ rfl s.toks
  have hC0 := fresh_size { s with heap := s.heap.push { cls := .type "list", data := .seq ([] : List Value).toArray } }
  have kk : Keeps { s with heap := s.heap.push { cls := .type "list", data := .seq ([] : List Value).toArray } } { s with heap := h₁, toks := s.toks + ([] : List (Str × Value)).length } :=
    ⟨h₁, _, rfl, fun b o e => (hsb₁.2 b (by rintro rfl; exact absurd e (by rw [hC0]; exact fun q => nomatch q))).trans (Heap.get?_push_of_some _ e)⟩
  have H2 := H1.new (r := frR (s.heap.push { cls := .type "list", dict := none, data := .seq ([] : List Value).toArray }).objs.size [] (xs.map (·, none))) kk (by
      rintro b (rfl | ⟨x, _, e⟩)
      · exact hC0
      · cases e) ⟨⟨_, hns₁, fun p hp _ => by obtain ⟨x, _, rfl⟩ := List.mem_map.mp hp; rfl⟩, fun p _ c e => by simp at e, fun p _ q _ c e _ => by simp at e, by
        have e : (xs.map fun x => ((x, none) : Str × Option Value)).map (·.1) = xs := by rw [List.map_map]; exact List.map_id xs
        rw [e]; exact nodup_of hnd⟩
  generalize (s.heap.push { cls := .type "list", dict := none, data := .seq ([] : List Value).toArray }).objs.size = C at *
  generalize s.heap.objs.size = D at *
  have loop : ∀ s₃, Hs g z (frR C [] (xs.map (·, none)) :: lR D [] :: I 0 :: M₀) s₃ →
      codeAny (model pr w) A (.compLoop (.ListComp elt [⟨target, iter, ifs, 0⟩] scope pos) 0 it (.ref D) (compEnvC scope (closOf scope.names env.cells) C env)) (compPost (model pr w) A (fun _ _ => False) use Q (.ref D) C) s₃ := by
    intro s₃ H
    refine codeAny_loop rfl (fun m s => ∃ i l ys M, m = n - i ∧ i ≤ n ∧ l.map (·.1) = xs ∧ J i ys M ∧ Hs g z (frR C [] l :: I i :: lR D ys :: M) s) (fun m s hI => ?_) n
      ⟨0, xs.map (·, none), [], M₀, rfl, Nat.zero_le _, by rw [List.map_map]; exact List.map_id xs, j0, H.sub (by walk_at "m_sub")⟩
    obtain ⟨i, l, ys, M, rfl, hi, hl, hJ, H⟩ := hI
    show wpAny _ A ((compTurn (.ListComp elt [⟨target, iter, ifs, 0⟩] scope pos) 0 it (.ref D) (compEnvC scope (closOf scope.names env.cells) C env)).onRaise (fun x => do noteFrame x (compEnvC scope (closOf scope.names env.cells) C env); theTreesLotGoes x)) _ _ _
    refine wpAny_noted ?_
    rw [compTurn_list]
    have hNs := hN i ys M _ hJ (H.sub (by exact Sub.drop (Sub.drop (Sub.drop Sub.refl))))
    have H0 := H.sub (xs := I i :: frR C [] l :: lR D ys :: M) (by walk_at "m_sub")
    refine wpAny_bind (wpAny_standAt (wpAny_bind ?_))
    rcases Nat.lt_or_eq_of_le hi with hlt | rfl
    · refine W.any (It.next g z i _ _ _ hlt hNs H0 fun v s' hv H => ?_)
      refine wpAny_bind (W.any (It.go g z i _ s' v _ hv H fun s' H => ?_))
      have H := H.sub (xs := frR C [] l :: I (i + 1) :: lR D ys :: Tv i v :: M) (by walk_at "m_sub")
      refine wpAny_bind (W.any (wpAny_mono (body C D l i ys M v s' hl hlt hJ hv H) (fun _ s₁ h₁ => ?_) fun _ _ f => f))
      refine wpAny_bind (W.any (wpAny_mono h₁ (fun ok s₂ h₂ => ?_) fun _ _ f => f))
      cases ok with
      | false =>
        obtain ⟨l', M', e', j', H'⟩ := h₂
        exact wpAny_pure ⟨rfl, n - (i + 1), by omega, i + 1, l', ys, M', rfl, hlt, e', j', H'⟩
      | true =>
        refine wpAny_bind (wpAny_bind (W.any (wpAny_mono h₂ (fun y s₃ h₃ => ?_) fun _ _ f => f)))
        obtain ⟨l', M', e', j', H'⟩ := h₃
        obtain ⟨nn, e⟩ := qR_at (a := D) H' (by walk_at "m_take")
        have hys := hlen _ _ _ hJ
        have hsl : sizeLine = 2 ^ 24 := rfl
        refine wpAny_bind (W.any (wpAny_list_append_plain (items := ys.toArray) ⟨nn, e⟩ (fun h' hp hs' => ?_) (by simp; omega)))
        obtain ⟨nn', e2⟩ := hp
        have H3 := (H'.take (x := lR D ys) (by walk_at "m_take")).put (r := lR D (ys ++ [y])) (h' := h') (t := s₃.toks) (fun b f => f) (fun b o nf e => (hs'.2 b nf).trans e) ⟨_, e2, nn', by simp⟩
        exact wpAny_pure (wpAny_pure ⟨rfl, n - (i + 1), by omega, i + 1, l', ys ++ [y], M', rfl, hlt, e', j', H3.sub (by walk_at "m_sub")⟩)
    · refine W.any (It.done g z _ _ _ hNs H0 fun s' H => ?_)
      exact wpAny_pure (fin C D l ys M s' hl hJ H)
  exact codeAny_compStart_list (loop _ H2) (It.self g z 0 _ _ _ (H2.sub (xs := I 0 :: frR C [] (xs.map (·, none)) :: lR D [] :: M₀) (by walk_at "m_sub")) (loop _ H2)).any
/-- a list comprehension -/
theorem comp2_ {elt target iter : Expr} {ifs : List Expr} {scope : Scope} {pos : Pos} {Q : Value → Shared → Prop} (xs : List Str)
    (h : W w A (eval iter env) (fun xv s₁ => W w A (pyIter xv) (fun it s₂ => ∃ g z n P I Im Tv N, ∃ (J : Nat → List Value → List Res → Prop) (M₀ : List Res), Iter2 w A it n P I Im Tv N target ∧ J 0 [] M₀ ∧ Hs g z (I 0 :: M₀) s₂ ∧ n ≤ 10000 ∧
      (∀ i ys M s, J i ys M → Hs g z M s → N s.heap) ∧ (∀ i ys M, J i ys M → ys.length ≤ i) ∧ CompBody2 w A g z target elt ifs scope env xs n P I Tv J ∧
      (∀ D ys M s, J n ys M → Hs g z (lR D ys :: M) s → Q (.ref D) s)) s₁) s)
    (ok : scopeOk scope xs = true := by kernel_rfl) (hclos : closureFor scope env = pure (closOf scope.names env.cells) := by kernel_rfl) (hs : ∀ x, foldedSetIterable iter env x = pure x := by intro _; rfl) :
    W w A (eval (.ListComp elt [⟨target, iter, ifs, 0⟩] scope pos) env) Q s := by
  have ok' := ok
  unfold scopeOk at ok'
  simp only [Bool.and_eq_true, beq_iff_eq, List.all_eq_true, bne_iff_ne, ne_eq, Bool.or_eq_true] at ok'
  obtain ⟨⟨⟨⟨hkind, hcell⟩, hloc⟩, hxs⟩, hnd⟩ := ok'
  rw [eval_ListComp]
  refine wpAny_comprehension_free (use := none) rfl hs hclos hkind (fun x hx hl => (hloc x hx).resolve_left fun q => q hl) (wpAny_mono h (fun xv s₁ h₁ => wpAny_mono h₁ (fun it s₂ h₂ => ?_) fun _ _ f => f) fun _ _ f => f)
  obtain ⟨g, z, n, P, I, Im, Tv, N, J, M₀, It, j0, H, hsz, hN, hlen, body, done⟩ := h₂
  refine comp_core2 ok It j0 H hN hsz hlen body fun C D l ys M s hl hJ H => ?_
  obtain ⟨⟨m, hm, _⟩, _⟩ := H.get Take.head
  exact ⟨m, hm, fun h' hs' => done D ys M _ hJ (frR_but2 H hs')⟩

theorem Hs.putnew {x r y : Res} {h' : Heap} {t : Nat} (H : Hs g z (x :: M) s) (hf : ∀ b, r.fp b → x.fp b) (hk : ∀ b o, ¬ x.fp b → s.heap.get? b = some o → h'.get? b = some o) (hr : r.ok h') (hn : ∀ b, y.fp b → s.heap.get? b = none) (hy : y.ok h') :
    Hs g z (r :: y :: M) { s with heap := h', toks := t } := by
  have H1 := H.put (h' := h') (t := t) hf hk hr
  have hd := List.pairwise_cons.mp H1.dj
  have hyM : ∀ q ∈ M, ∀ b, y.fp b → q.fp b → False := fun q hq b f f' => by
    obtain ⟨o, ho⟩ := q.al _ (H.ok q (List.mem_cons_of_mem _ hq)) b f'
    rw [hn b f] at ho; cases ho
  refine ⟨H1.base, H1.gens, H1.drawn, H1.os, fun q hq => ?_, fun q hq b f => ?_, ?_⟩
  · rcases List.mem_cons.mp hq with rfl | hq
    · exact hr
    · rcases List.mem_cons.mp hq with rfl | hq
      · exact hy
      · exact H1.ok q (List.mem_cons_of_mem _ hq)
  · rcases List.mem_cons.mp hq with rfl | hq
    · exact H1.off _ List.mem_cons_self b f
    · rcases List.mem_cons.mp hq with rfl | hq
      · cases e : g.get? b with
        | none => rfl
        | some o => have := H.base b o e; rw [hn b f] at this; cases this
      · exact H1.off q (List.mem_cons_of_mem _ hq) b f
  · refine List.pairwise_cons.mpr ⟨fun q hq b f f' => ?_, List.pairwise_cons.mpr ⟨fun q hq b f f' => hyM q hq b f f', hd.2⟩⟩
    rcases List.mem_cons.mp hq with rfl | hq
    · obtain ⟨o, ho⟩ := x.al _ (H.ok x List.mem_cons_self) b (hf b f)
      rw [hn b f'] at ho; cases ho
    · exact hd.1 q hq b f f'
def pairO (a b : Value) : Obj := { cls := .type "tuple", data := .seq #[a, b] }
def zipO (f0 : Value) (TI TO : Addr) : Obj := { cls := .type "zip", dict := none, data := .fields #[f0, .bool false, .bool false, .ref TI, .ref TO], slots := #[] }
def zpR (Z TI TO i1 i2 l1 l2 : Addr) (f0 : Value) (i : Nat) : Res := sR [cR Z (· = zipO f0 TI TO), cR TI (· = pairO (.ref i1) (.ref i2)), cR TO (fun o => ∃ a b, o = pairO a b), liR i1 l1 i, liR i2 l2 i]
def tvR (xs : List Value) (gs : List Int) (i : Nat) (v : Value) : Res := match v with
  | .ref a => cR a fun o => ∃ x k t, xs[i]? = some x ∧ gs[i]? = some k ∧ o = pairO x (.int k t)
  | _ => sR []
theorem zip_iter {Z TI TO i1 i2 l1 l2 : Addr} {xs : List Value} {gs : List Int} {elts : List Expr} {x1} {pos : Pos} (hh : A.handled = none) (D : ZipApart Z TI TO i1 i2 l1 l2) (hl : xs.length = gs.length) :
    Iter2 w A (.ref Z) xs.length (fun _ v => ∃ a, v = .ref a) (zpR Z TI TO i1 i2 l1 l2 .none) (fun i v => match v with | .ref a => sR [zpR Z TI TO i1 i2 l1 l2 (rawInt a) (i + 1), tvR xs gs i v] | _ => sR []) (tvR xs gs) (fun h => (∃ n, h.get? l1 = some ⟨.type "list", none, .seq xs.toArray n, #[]⟩) ∧ ∃ vs n, IntsAre vs gs ∧ h.get? l2 = some ⟨.type "list", none, .seq (vs : List Value).toArray n, #[]⟩) (.Tuple elts x1 pos) where
  next := by
    rintro g z i M s Q hi ⟨⟨n1, e1⟩, vs, n2, hv, e2⟩ H q
    obtain ⟨hok, hpw⟩ := H.get Take.head
    obtain ⟨_, hz, rfl⟩ := hok (cR Z (· = zipO .none TI TO)) (by simp)
    obtain ⟨_, hTI, rfl⟩ := hok (cR TI (· = pairO (.ref i1) (.ref i2))) (by simp)
    obtain ⟨_, hTO, a, b, rfl⟩ := hok (cR TO (fun o => ∃ a b, o = pairO a b)) (by simp)
    obtain ⟨o1, h1, hc1, hd1⟩ := hok (liR i1 l1 i) (by simp)
    obtain ⟨o2, h2, hc2, hd2⟩ := hok (liR i2 l2 i) (by simp)
    have hvl := nm_len hv
    have hx : xs.toArray[i]? = some xs[i] := by rw [List.getElem?_toArray]; exact List.getElem?_eq_getElem hi
    have hvi : vs[i]? = some vs[i] := List.getElem?_eq_getElem (by omega)
    obtain ⟨y, ty, hy, ey⟩ := nm_get hv hvi
    rw [ey] at hvi
    refine wpAny_pyNext_zip_item (TI := TI) (TO := TO) D hz hTI hTO ⟨o1, h1, hc1, hd1⟩ ⟨o2, h2, hc2, hd2⟩ ⟨_, e1, rfl, n1, rfl⟩ ⟨_, e2, rfl, n2, rfl⟩ hx (y := .int y ty) (by rw [List.getElem?_toArray]; exact hvi) fun h' z1 to1 it1 it2 tp sz keep => ?_
    obtain ⟨o1', h1', hc1', hd1'⟩ := it1
    obtain ⟨o2', h2', hc2', hd2'⟩ := it2
    have H1 := H.putnew (h' := h') (t := s.toks) (r := zpR Z TI TO i1 i2 l1 l2 (rawInt s.heap.objs.size) (i + 1)) (y := tvR xs gs i (.ref s.heap.objs.size)) (fun b f => ?_) (fun b o nf e => ?_) ⟨fun r hr => ?_, ?_⟩ (fun b f => ?_) ⟨_, tp, xs[i], y, ty, List.getElem?_eq_getElem hi, hy, rfl⟩
    · exact q (.ref s.heap.objs.size) _ ⟨_, rfl⟩ (Hs.shut (l := [zpR Z TI TO i1 i2 l1 l2 (rawInt s.heap.objs.size) (i + 1), tvR xs gs i (.ref s.heap.objs.size)]) H1)
    · obtain ⟨r, hr, f⟩ := f
      simp only [List.mem_cons, List.not_mem_nil, or_false] at hr
      rcases hr with rfl | rfl | rfl | rfl | rfl
      · exact ⟨_, List.mem_cons_self, f⟩
      · exact ⟨_, List.mem_cons_of_mem _ List.mem_cons_self, f⟩
      · exact ⟨_, List.mem_cons_of_mem _ (List.mem_cons_of_mem _ List.mem_cons_self), f⟩
      · exact ⟨liR i1 l1 i, by simp, f⟩
      · exact ⟨liR i2 l2 i, by simp, f⟩
    · refine keep b o (fun e' => nf ⟨cR Z (· = zipO .none TI TO), by simp, e'⟩) (fun e' => nf ⟨cR TO (fun o => ∃ a b, o = pairO a b), by simp, e'⟩) (fun e' => nf ⟨liR i1 l1 i, by simp, e'⟩) (fun e' => nf ⟨liR i2 l2 i, by simp, e'⟩) e
    · simp only [List.mem_cons, List.not_mem_nil, or_false] at hr
      rcases hr with rfl | rfl | rfl | rfl | rfl
      · exact ⟨_, z1, rfl⟩
      · exact ⟨_, keep TI _ D.TIz D.TITO D.TIi1 D.TIi2 hTI, rfl⟩
      · exact ⟨_, to1, _, _, rfl⟩
      · exact ⟨o1', h1', hc1', hd1'⟩
      · exact ⟨o2', h2', hc2', hd2'⟩
    · have e : List.Pairwise (fun (x y : Addr → Prop) => ∀ b, x b → y b → False) (List.map Res.fp [cR Z (· = zipO .none TI TO), cR TI (· = pairO (.ref i1) (.ref i2)), cR TO (fun o => ∃ a b, o = pairO a b), liR i1 l1 i, liR i2 l2 i]) := List.pairwise_map.mpr hpw
      have e' : List.Pairwise (fun (x y : Addr → Prop) => ∀ b, x b → y b → False) (List.map Res.fp [cR Z (· = zipO (rawInt s.heap.objs.size) TI TO), cR TI (· = pairO (.ref i1) (.ref i2)), cR TO (fun o => ∃ a b, o = pairO a b), liR i1 l1 (i + 1), liR i2 l2 (i + 1)]) := e
      exact List.pairwise_map.mp e'
    · cases f; exact fresh_size s
  done := by
    rintro g z M s Q ⟨⟨n1, e1⟩, vs, n2, hv, e2⟩ H q
    obtain ⟨hok, hpw⟩ := H.get Take.head
    obtain ⟨_, hz, rfl⟩ := hok (cR Z (· = zipO .none TI TO)) (by simp)
    obtain ⟨_, hTI, rfl⟩ := hok (cR TI (· = pairO (.ref i1) (.ref i2))) (by simp)
    obtain ⟨_, hTO, a, b, rfl⟩ := hok (cR TO (fun o => ∃ a b, o = pairO a b)) (by simp)
    obtain ⟨o1, h1, hc1, hd1⟩ := hok (liR i1 l1 xs.length) (by simp)
    obtain ⟨o2, h2, hc2, hd2⟩ := hok (liR i2 l2 xs.length) (by simp)
    refine wpAny_pyNext_zip_end (TI := TI) (TO := TO) hh D hz hTI hTO ⟨o1, h1, hc1, hd1⟩ ⟨o2, h2, hc2, hd2⟩ ⟨_, e1, rfl, n1, rfl⟩ ⟨_, e2, rfl, n2, rfl⟩ (.inl (by simp)) fun h' keep => ?_
    refine q _ (H.lose fun b o nf e => keep b o (fun e' => nf ⟨cR Z (· = zipO .none TI TO), by simp, e'⟩) (fun e' => nf ⟨cR TO (fun o => ∃ a b, o = pairO a b), by simp, e'⟩) (fun e' => nf ⟨liR i1 l1 xs.length, by simp, e'⟩) (fun e' => nf ⟨liR i2 l2 xs.length, by simp, e'⟩) e)
  self := by
    rintro g z i M s Q H q
    obtain ⟨_, ho, rfl⟩ := (H.get Take.head).1 (cR Z (· = zipO .none TI TO)) List.mem_cons_self
    exact wpAny_pyIter_zip (f0 := .none) ho q
  go := by
    rintro g z i M s v Q ⟨a, rfl⟩ H q
    have H1 : Hs g z (zpR Z TI TO i1 i2 l1 l2 (rawInt a) (i + 1) :: tvR xs gs i (.ref a) :: M) s := Hs.open_ (l := [zpR Z TI TO i1 i2 l1 l2 (rawInt a) (i + 1), tvR xs gs i (.ref a)]) H
    have H2 := Hs.open_ H1
    have H2 : Hs g z (cR Z (· = zipO (rawInt a) TI TO) :: cR TI (· = pairO (.ref i1) (.ref i2)) :: cR TO (fun o => ∃ a b, o = pairO a b) :: liR i1 l1 (i + 1) :: liR i2 l2 (i + 1) :: tvR xs gs i (.ref a) :: M) s := H2
    obtain ⟨_, ho, rfl⟩ := H2.get Take.head
    refine wpAny_letOwnedTupleGo_zip (TI := TI) (TO := TO) ho fun h' hz hs => q _ ?_
    have H3 := H2.put (h' := h') (t := s.toks) (r := cR Z (· = zipO .none TI TO)) (fun _ f => f) (fun b o nf e => (hs.2 b nf).trans e) ⟨_, hz, rfl⟩
    exact Hs.shut (l := [cR Z (· = zipO .none TI TO), cR TI (· = pairO (.ref i1) (.ref i2)), cR TO (fun o => ∃ a b, o = pairO a b), liR i1 l1 (i + 1), liR i2 l2 (i + 1)]) H3

theorem ad_lt {a b : Nat} (h : a < b) : a ≠ b := Nat.ne_of_lt h
theorem ad_gt {a b : Nat} (h : b < a) : a ≠ b := Nat.ne_of_gt h
/-- zip of a list and a list of ints -/
theorem zip_call {l1 l2 : Addr} {xs : List Value} {gs : List Int} {Q : Value → Shared → Prop} (H : Hs g z M s) (t1 : Take (lR l1 xs) M M') (t2 : Take (zR l2 gs) M R)
    (q : ∀ Z TI TO i1 i2 s', ZipApart Z TI TO i1 i2 l1 l2 → Hs g z (zpR Z TI TO i1 i2 l1 l2 .none 0 :: M) s' → Q (.ref Z) s') : W w A (call (.type "zip") [.ref l1, .ref l2]) Q s := by
  obtain ⟨n1, e1⟩ := qR_at H t1
  obtain ⟨vs, n2, hv, e2⟩ := z_at H t2
  have hl1 : @LT.lt Nat _ l1 s.heap.objs.size := Heap.lt_size e1
  have hl2 : @LT.lt Nat _ l2 s.heap.objs.size := Heap.lt_size e2
  refine call_zip_2 (xs := xs.toArray) (ys := vs.toArray) ⟨_, e1, rfl, n1, rfl⟩ ⟨_, e2, rfl, n2, rfl⟩ fun h' hz hTI hTO it1 it2 hsz keep => ?_
  obtain ⟨o1, h1, hc1, hd1⟩ := it1
  obtain ⟨o2, h2, hc2, hd2⟩ := it2
  have fresh : ∀ b, s.heap.objs.size ≤ b → s.heap.get? b = none := fun b hb => by
    cases q : s.heap.get? b with
    | none => rfl
    | some o => exact absurd (Heap.lt_size q) (Nat.not_lt.mpr hb)
  refine q (s.heap.objs.size + 4) (s.heap.objs.size + 2) (s.heap.objs.size + 3) s.heap.objs.size (s.heap.objs.size + 1) _ ⟨ad_lt (by omega), ad_lt (by omega), ad_lt (by omega), ad_lt (by omega), ad_lt (by omega), ad_gt (by omega), ad_gt (by omega), ad_gt (by omega), ad_gt (by omega), ad_lt (by omega), ad_lt (by omega), ad_lt (by omega), ad_lt (by omega), ad_lt (by omega), ad_lt (by omega), ad_lt (by omega), ad_lt (by omega), ad_lt (by omega)⟩
    (H.new ⟨h', s.toks, rfl, keep⟩ (fun b f => ?_) ⟨fun r hr => ?_, ?_⟩)
  · obtain ⟨r, hr, f⟩ := f
    simp only [List.mem_cons, List.not_mem_nil, or_false] at hr
    rcases hr with rfl | rfl | rfl | rfl | rfl <;> (cases f; exact fresh _ (by omega))
  · simp only [List.mem_cons, List.not_mem_nil, or_false] at hr
    rcases hr with rfl | rfl | rfl | rfl | rfl
    · exact ⟨_, hz, rfl⟩
    · exact ⟨_, hTI, rfl⟩
    · exact ⟨_, hTO, _, _, rfl⟩
    · exact ⟨o1, h1, hc1, hd1⟩
    · exact ⟨o2, h2, hc2, hd2⟩
  · have key : ∀ a b : Addr, a ≠ b → ∀ c, c = a → c = b → False := fun a b h c e1 e2 => h (e1.symm.trans e2)
    have e : List.Pairwise (fun (x y : Addr → Prop) => ∀ b, x b → y b → False) [fun b => b = s.heap.objs.size + 4, fun b => b = s.heap.objs.size + 2, fun b => b = s.heap.objs.size + 3, fun b => b = s.heap.objs.size, fun b => b = s.heap.objs.size + 1] := by
      simp only [List.pairwise_cons, List.mem_cons, List.not_mem_nil, or_false, forall_eq_or_imp, forall_eq, List.Pairwise.nil, and_true]
      refine ⟨⟨?_, ?_, ?_, ?_⟩, ⟨?_, ?_, ?_⟩, ⟨?_, ?_⟩, ?_, ?_⟩ <;> first | exact key _ _ (ad_lt (by omega)) | exact key _ _ (ad_gt (by omega)) | (intro _ h; cases h) | trivial | simp
    have e' : List.Pairwise (fun (x y : Addr → Prop) => ∀ b, x b → y b → False) (List.map Res.fp [cR (s.heap.objs.size + 4) (· = zipO .none (s.heap.objs.size + 2) (s.heap.objs.size + 3)), cR (s.heap.objs.size + 2) (· = pairO (.ref s.heap.objs.size) (.ref (s.heap.objs.size + 1))), cR (s.heap.objs.size + 3) (fun o => ∃ a b, o = pairO a b), liR s.heap.objs.size l1 0, liR (s.heap.objs.size + 1) l2 0]) := e
    exact List.pairwise_map.mp e'
end
end
section
def lenOf (scr : List Int) : Nat := (2 + (scr.getD 2 1).fmod 3).toNat
def vtsOf (scr : List Int) : List Int := (List.range (lenOf scr)).map fun i => 1 + (scr.getD (3 + i) (20 + 9 * (i : Int))).fmod 60
def seatsOf (scr : List Int) : Int := 1 + (scr.getD 1 4).fmod 6
theorem len_of (scr : List Int) : 2 + (scr.getD 2 1).fmod 3 = (lenOf scr : Int) ∧ 2 ≤ lenOf scr ∧ lenOf scr ≤ 4 := by
  have h0 := Int.fmod_nonneg_of_pos (scr.getD 2 1) (show (0 : Int) < 3 by decide)
  have h1 := Int.fmod_lt_of_pos (scr.getD 2 1) (show (0 : Int) < 3 by decide)
  unfold lenOf; omega
theorem vts_len (scr : List Int) : (vtsOf scr).length = lenOf scr := by unfold vtsOf; simp
theorem votes_of (scr : List Int) : Votes (vtsOf scr) (seatsOf scr) := by
  obtain ⟨h1, h2, h3⟩ := len_of scr
  have g0 := Int.fmod_nonneg_of_pos (scr.getD 1 4) (show (0 : Int) < 6 by decide)
  have g1 := Int.fmod_lt_of_pos (scr.getD 1 4) (show (0 : Int) < 6 by decide)
  refine { l2 := by rw [vts_len]; exact h2, l4 := by rw [vts_len]; exact h3, v1 := fun v hv => ?_, s1 := by unfold seatsOf; omega }
  obtain ⟨i, _, rfl⟩ := List.mem_map.mp hv
  have k0 := Int.fmod_nonneg_of_pos (scr.getD (3 + i) (20 + 9 * (i : Int))) (show (0 : Int) < 60 by decide)
  have k1 := Int.fmod_lt_of_pos (scr.getD (3 + i) (20 + 9 * (i : Int))) (show (0 : Int) < 60 by decide)
  omega
def nsOf (vts : List Int) : List Int := (List.range vts.length).map fun i : Nat => (i : Int)
section
variable {w : World} {A : Around} {g : Heap} {z s s' : Shared} {M M' R : List Res} {env : Env}
/-- the law's first six statements -/
theorem law_a {L scA : Addr} {scr : List Int} {Q : Flow → Shared → Prop} (hS : ScriptAt g scA scr) (hlen : scr.length ≤ 1000) (hA : Ok 20 A) (B : Base w g) (H : Hs g z (frR L (cellsOf w 484 L) [("script", (some (.ref scA))), ("pick", none), ("seats", none), ("k", none), ("votes", none), ("total", none), ("whole", none), ("rests", none), ("names", none), ("problem", none), ("ways", none), ("gains", none), ("told", none), ("only", none), ("best", none), ("strays", none), ("a", none), ("b", none), ("moved", none)] :: R) s)
    (cont : ∀ last, (bodyOf w 484).drop 6 = last → ∀ tp tS tT vA wA rA nA s', Hs g z (frR L (cellsOf w 484 L) [("script", (some (.ref scA))), ("pick", (some (.int (scr.getD 0 1) tp))), ("seats", (some (.int (seatsOf scr) tS))), ("k", none), ("votes", (some (.ref vA))), ("total", (some (.int (vtsOf scr).sum tT))), ("whole", (some (.ref wA))), ("rests", (some (.ref rA))), ("names", (some (.ref nA))), ("problem", none), ("ways", none), ("gains", none), ("told", none), ("only", none), ("best", none), ("strays", none), ("a", none), ("b", none), ("moved", none)] :: zR vA (vtsOf scr) :: zR wA (flL (vtsOf scr) (seatsOf scr)) :: zR rA (remL (vtsOf scr) (seatsOf scr)) :: zR nA (nsOf (vtsOf scr)) :: R) s' → W w A (execs last (callEnvC (fdOf w 484) L 484)) Q s') :
    W w A (execs (bodyOf w 484) (callEnvC (fdOf w 484) L 484)) Q s := by
  have hsl : sizeLine = 2 ^ 24 := rfl
  obtain ⟨hn, hn2, hn4⟩ := len_of scr
  have hV := votes_of scr
  have hvl := vts_len scr
  obtain ⟨hT1, hT2, hT3⟩ := hV.tot
  have hs1 := hV.s1
  with_unfolding_all refine wpAny_execs_cons ?_
  refine Assign_Tuple ?_ (by kernel_rfl) (by kernel_rfl)
  refine tuple_ (k := 0) (spliced_cons ?_)
  refine Call_ ?_
  refine nmG (v := .ref 472) B H ?_
  refine cwK rfl (evalArgs_plain (spliced_cons ?_))
  refine nmC (L := L) (by assumption) (by walk_at "m_take") (by walk_at "m_mem") ?_
  refine spliced_cons ?_
  refine con_ (k := 0) (pos := ⟨0, 0, 0, 0⟩) H fun t1 s1 H => ?_
  refine spliced_cons ?_
  refine con_ (k := 0) (pos := ⟨0, 0, 0, 0⟩) H fun t2 s2 H => ?_
  refine spliced_nil ?_
  refine ⟨rfl, B.x H, ?_⟩
  refine fn_at (n := 18) (k := 0) hS hlen (by omega) (hA.le (by omega)) B H fun tp s3 H => ?_
  refine spliced_cons ?_
  refine wpAny_BinOp ?_
  refine con_ H fun t4 s4 H => ?_
  refine wpAny_BinOp ?_
  refine Call_ ?_
  refine nmG (v := .ref 472) B H ?_
  refine cwK rfl (evalArgs_plain (spliced_cons ?_))
  refine nmC (L := L) (by assumption) (by walk_at "m_take") (by walk_at "m_mem") ?_
  refine spliced_cons ?_
  refine con_ (k := 0) (pos := ⟨0, 0, 0, 0⟩) H fun t5 s5 H => ?_
  refine spliced_cons ?_
  refine con_ (k := 0) (pos := ⟨0, 0, 0, 0⟩) H fun t6 s6 H => ?_
  refine spliced_nil ?_
  refine ⟨rfl, B.x H, ?_⟩
  refine fn_at (n := 18) (k := 1) hS hlen (by omega) (hA.le (by omega)) B H fun t7 s7 H => ?_
  refine con_ H fun t8 s8 H => ?_
  refine mod_ H (by decide) fun t9 s9 H => ?_
  refine add_ H fun tS s10 H => ?_
  refine spliced_nil ?_
  refine ⟨g, z, _, H, by simp; omega, fun tu s11 H => ?_⟩
  obtain ⟨_, e12, n12, rfl⟩ := H.get (x := tR tu _) Take.head
  refine asg_tup hA.hd H e12 fun s13 H => ?_
  refine wpAny_assignInOrder_more (wpAny_assign_Name ?_)
  refine stL (L := L) H (by walk_at "m_take") (by walk_at "m_upl") fun s14 H => ?_
  refine wpAny_assignInOrder_more (wpAny_assign_Name ?_)
  refine stC (L := L) H (by walk_at "m_take") (by walk_at "m_upl") fun s15 H => ?_
  refine wpAny_assignInOrder_none ?_
  have H : Hs g z (frR L (cellsOf w 484 L) [("script", (some (.ref scA))), ("pick", (some (.int (scr.getD 0 1) tp))), ("seats", (some (.int (1 + (scr.getD 1 4).fmod 6) tS))), ("k", none), ("votes", none), ("total", none), ("whole", none), ("rests", none), ("names", none), ("problem", none), ("ways", none), ("gains", none), ("told", none), ("only", none), ("best", none), ("strays", none), ("a", none), ("b", none), ("moved", none)] :: R) s15 := H.sub (by walk_at "m_sub")
  have H : Hs g z (frR L (cellsOf w 484 L) [("script", (some (.ref scA))), ("pick", (some (.int (scr.getD 0 1) tp))), ("seats", (some (.int (seatsOf scr) tS))), ("k", none), ("votes", none), ("total", none), ("whole", none), ("rests", none), ("names", none), ("problem", none), ("ways", none), ("gains", none), ("told", none), ("only", none), ("best", none), ("strays", none), ("a", none), ("b", none), ("moved", none)] :: R) s15 := H
  show W _ _ _ _ _
  refine wpAny_execs_cons ?_
  refine wpAny_Assign_Name ?_ (by kernel_rfl)
  refine comp_ ["k"] ?_
  refine Call_Name1 ?_
  refine nmB (v := .type "range") B H ?_
  refine PyProof.Rows.callWith_type rfl (evalArgs1 ?_)
  refine wpAny_BinOp ?_
  refine con_ H fun t16 s16 H => ?_
  refine wpAny_BinOp ?_
  refine Call_ ?_
  refine nmG (v := .ref 472) B H ?_
  refine cwK rfl (evalArgs_plain (spliced_cons ?_))
  refine nmC (L := L) (by assumption) (by walk_at "m_take") (by walk_at "m_mem") ?_
  refine spliced_cons ?_
  refine con_ (k := 0) (pos := ⟨0, 0, 0, 0⟩) H fun t5 s5 H => ?_
  refine spliced_cons ?_
  refine con_ (k := 0) (pos := ⟨0, 0, 0, 0⟩) H fun t6 s6 H => ?_
  refine spliced_nil ?_
  refine ⟨rfl, B.x H, ?_⟩
  refine fn_at (n := 18) (k := 2) hS hlen (by omega) (hA.le (by omega)) B H fun t7 s7 H => ?_
  refine con_ H fun t8 s8 H => ?_
  refine mod_ H (by decide) fun t9 s9 H => ?_
  refine add_ H fun t10 s10 H => ?_
  rw [hn]
  refine r_call H fun r s6 H => ?_
  refine r_iter H Take.head (by omega) fun I s7 H => ?_
  refine ⟨g, z, lenOf scr, _, _, _, fun i ys M => IntsAre ys ((vtsOf scr).take i) ∧ M = frR L (cellsOf w 484 L) [("script", (some (.ref scA))), ("pick", (some (.int (scr.getD 0 1) tp))), ("seats", (some (.int (seatsOf scr) tS))), ("k", none), ("votes", none), ("total", none), ("whole", none), ("rests", none), ("names", none), ("problem", none), ("ways", none), ("gains", none), ("told", none), ("only", none), ("best", none), ("strays", none), ("a", none), ("b", none), ("moved", none)] :: R, _, iter_rg hA.hd I (lenOf scr),
    ⟨.nil, rfl⟩, H.sub (by walk_at "m_sub"), by omega, ?_, ?_, ?_, ?_⟩
  · intros; trivial
  · rintro i ys M ⟨h, rfl⟩; rw [nm_len h, List.length_take]; omega
  · rintro C D l0 i ys M v s hl hi ⟨hys, rfl⟩ ⟨t, rfl⟩ H
    obtain ⟨o0, rfl⟩ := one_name hl
    refine wpAny_assign_Name ?_
    refine stL H (by walk_at "m_take") (by walk_at "m_upl") fun s12 H => ?_
    refine wpAny_tests_nil ?_
    rw [if_pos rfl]
    refine wpAny_BinOp ?_
    refine con_ H fun t16 s16 H => ?_
    refine wpAny_BinOp ?_
    refine Call_ ?_
    refine nmG (v := .ref 472) B H ?_
    refine cwK rfl (evalArgs_plain (spliced_cons ?_))
    refine nmC (L := L) (by assumption) (by walk_at "m_take") (by walk_at "m_mem") ?_
    refine spliced_cons ?_
    refine wpAny_BinOp ?_
    refine con_ H fun t5 s5 H => ?_
    refine nmL (by assumption) (by walk_at "m_take") (by walk_at "m_mem") ?_
    refine add_ H fun t6 s6 H => ?_
    refine spliced_cons ?_
    refine wpAny_BinOp ?_
    refine con_ H fun t17 s17 H => ?_
    refine wpAny_BinOp ?_
    refine con_ H fun t18 s18 H => ?_
    refine nmL (by assumption) (by walk_at "m_take") (by walk_at "m_mem") ?_
    refine mul_ H (mul_ok (by decide)) fun t19 s19 H => ?_
    refine add_ H fun t20 s20 H => ?_
    refine spliced_nil ?_
    refine ⟨rfl, B.x H, ?_⟩
    rw [show (3 : Int) + (i : Int) = ((3 + i : Nat) : Int) by omega]
    refine fn_at (n := 18) (k := 3 + i) hS hlen (by omega) (hA.le (by omega)) B H fun t7 s7 H => ?_
    refine con_ H fun t8 s8 H => ?_
    refine mod_ H (by decide) fun t9 s9 H => ?_
    refine add_ H fun t10 s10 H => ?_
    have hfi : (vtsOf scr)[i]? = some (1 + (scr.getD (3 + i) (20 + 9 * (i : Int))).fmod 60) := by unfold vtsOf; rw [List.getElem?_map, List.getElem?_range hi]; rfl
    refine ⟨[("k", some (.int i t))], _, rfl, ⟨?_, rfl⟩, H⟩
    rw [List.take_add_one, hfi]
    exact ints_snoc hys
  rintro vA ys M s ⟨hys, rfl⟩ H
  rw [List.take_of_length_le (by omega)] at hys
  have H := H.toz hys
  refine stC (L := L) H (by walk_at "m_take") (by walk_at "m_upl") fun s16 H => ?_
  have hsm : Small (vtsOf scr) := ⟨by omega, fun k hk => by have := hV.v1 k hk; omega⟩
  show W _ _ _ _ _
  refine wpAny_execs_cons ?_
  refine wpAny_Assign_Name ?_ (by kernel_rfl)
  refine Call_Name1 ?_
  refine nmB (v := .builtin "sum") B H ?_
  refine cw1 ?_
  refine nmC (L := L) (by assumption) (by walk_at "m_take") (by walk_at "m_mem") ?_
  refine z_sum hA.hd H (by walk_at "m_take") hsm fun tT s17 H => ?_
  refine stC (L := L) H (by walk_at "m_take") (by walk_at "m_upl") fun s18 H => ?_
  show W _ _ _ _ _
  refine wpAny_execs_cons ?_
  refine wpAny_Assign_Name ?_ (by kernel_rfl)
  refine comp_ ["vote"] ?_
  refine nmC (L := L) (by assumption) (by walk_at "m_take") (by walk_at "m_mem") ?_
  refine z_iter H (show Take (zR vA (vtsOf scr)) _ _ from (by walk_at "m_take")) fun I s2 H => ?_
  refine ⟨g, z, (vtsOf scr).length, _, _, _, fun i ys M => IntsAre ys ((flL (vtsOf scr) (seatsOf scr)).take i) ∧ M = frR L (cellsOf w 484 L) [("script", (some (.ref scA))), ("pick", (some (.int (scr.getD 0 1) tp))), ("seats", (some (.int (seatsOf scr) tS))), ("k", none), ("votes", (some (.ref vA))), ("total", (some (.int (vtsOf scr).sum tT))), ("whole", none), ("rests", none), ("names", none), ("problem", none), ("ways", none), ("gains", none), ("told", none), ("only", none), ("best", none), ("strays", none), ("a", none), ("b", none), ("moved", none)] :: zR vA (vtsOf scr) :: R, _, iter_z hA.hd I vA (vtsOf scr),
    ⟨.nil, rfl⟩, H.sub (by walk_at "m_sub"), by omega, ?_, ?_, ?_, ?_⟩
  · rintro i ys M s ⟨_, rfl⟩ H; exact has_z (l := vA) H (by walk_at "m_take")
  · rintro i ys M ⟨h, rfl⟩; rw [nm_len h, List.length_take]; omega
  · rintro C D l0 i ys M v s hl hi ⟨hys, rfl⟩ ⟨k, t, hk, rfl⟩ H
    obtain ⟨o0, rfl⟩ := one_name hl
    have hkm := List.mem_of_getElem? hk
    have hkv := hV.v1 k hkm
    refine wpAny_assign_Name ?_
    refine stL H (by walk_at "m_take") (by walk_at "m_upl") fun s2 H => ?_
    refine wpAny_tests_nil ?_
    rw [if_pos rfl]
    refine wpAny_BinOp ?_
    refine wpAny_BinOp ?_
    refine nmL (by assumption) (by walk_at "m_take") (by walk_at "m_mem") ?_
    refine nmC (L := L) (by assumption) (by walk_at "m_take") (by walk_at "m_mem") ?_
    refine mul_ H (mul_ok (by omega)) fun t3 s3 H => ?_
    refine nmC (L := L) (by assumption) (by walk_at "m_take") (by walk_at "m_mem") ?_
    refine div_ H (by omega) (by omega) fun t15 s15 H => ?_
    have hfi : (flL (vtsOf scr) (seatsOf scr))[i]? = some ((k * seatsOf scr).fdiv (vtsOf scr).sum) := by unfold flL; rw [List.getElem?_map, hk]; rfl
    refine ⟨[("vote", some (.int k t))], _, rfl, ⟨?_, rfl⟩, H⟩
    rw [List.take_add_one, hfi]
    exact ints_snoc hys
  rintro wA ys M s ⟨hys, rfl⟩ H
  rw [List.take_of_length_le (by rw [fl_len]; omega)] at hys
  have H := H.toz hys
  refine stC (L := L) H (by walk_at "m_take") (by walk_at "m_upl") fun s16 H => ?_
  show W _ _ _ _ _
  refine wpAny_execs_cons ?_
  refine wpAny_Assign_Name ?_ (by kernel_rfl)
  refine comp_ ["vote"] ?_
  refine nmC (L := L) (by assumption) (by walk_at "m_take") (by walk_at "m_mem") ?_
  refine z_iter H (show Take (zR vA (vtsOf scr)) _ _ from (by walk_at "m_take")) fun I s2 H => ?_
  refine ⟨g, z, (vtsOf scr).length, _, _, _, fun i ys M => IntsAre ys ((remL (vtsOf scr) (seatsOf scr)).take i) ∧ M = frR L (cellsOf w 484 L) [("script", (some (.ref scA))), ("pick", (some (.int (scr.getD 0 1) tp))), ("seats", (some (.int (seatsOf scr) tS))), ("k", none), ("votes", (some (.ref vA))), ("total", (some (.int (vtsOf scr).sum tT))), ("whole", (some (.ref wA))), ("rests", none), ("names", none), ("problem", none), ("ways", none), ("gains", none), ("told", none), ("only", none), ("best", none), ("strays", none), ("a", none), ("b", none), ("moved", none)] :: zR wA (flL (vtsOf scr) (seatsOf scr)) :: zR vA (vtsOf scr) :: R, _, iter_z hA.hd I vA (vtsOf scr),
    ⟨.nil, rfl⟩, H.sub (by walk_at "m_sub"), by omega, ?_, ?_, ?_, ?_⟩
  · rintro i ys M s ⟨_, rfl⟩ H; exact has_z (l := vA) H (by walk_at "m_take")
  · rintro i ys M ⟨h, rfl⟩; rw [nm_len h, List.length_take]; omega
  · rintro C D l0 i ys M v s hl hi ⟨hys, rfl⟩ ⟨k, t, hk, rfl⟩ H
    obtain ⟨o0, rfl⟩ := one_name hl
    have hkm := List.mem_of_getElem? hk
    have hkv := hV.v1 k hkm
    refine wpAny_assign_Name ?_
    refine stL H (by walk_at "m_take") (by walk_at "m_upl") fun s2 H => ?_
    refine wpAny_tests_nil ?_
    rw [if_pos rfl]
    refine wpAny_BinOp ?_
    refine wpAny_BinOp ?_
    refine nmL (by assumption) (by walk_at "m_take") (by walk_at "m_mem") ?_
    refine nmC (L := L) (by assumption) (by walk_at "m_take") (by walk_at "m_mem") ?_
    refine mul_ H (mul_ok (by omega)) fun t3 s3 H => ?_
    refine nmC (L := L) (by assumption) (by walk_at "m_take") (by walk_at "m_mem") ?_
    refine mod_ H (by omega) fun t15 s15 H => ?_
    rw [show (k * seatsOf scr).fmod (vtsOf scr).sum = k * seatsOf scr - (k * seatsOf scr).fdiv (vtsOf scr).sum * (vtsOf scr).sum by rw [Int.mul_comm ((k * seatsOf scr).fdiv _)]; have := Int.mul_fdiv_add_fmod (k * seatsOf scr) (vtsOf scr).sum; omega]
    have hfi : (remL (vtsOf scr) (seatsOf scr))[i]? = some (k * seatsOf scr - (k * seatsOf scr).fdiv (vtsOf scr).sum * (vtsOf scr).sum) := by unfold remL; rw [List.getElem?_map, hk]; rfl
    refine ⟨[("vote", some (.int k t))], _, rfl, ⟨?_, rfl⟩, H⟩
    rw [List.take_add_one, hfi]
    exact ints_snoc hys
  rintro rA ys M s ⟨hys, rfl⟩ H
  rw [List.take_of_length_le (by rw [rem_len]; omega)] at hys
  have H := H.toz hys
  refine stC (L := L) H (by walk_at "m_take") (by walk_at "m_upl") fun s16 H => ?_
  show W _ _ _ _ _
  refine wpAny_execs_cons ?_
  refine wpAny_Assign_Name ?_ (by kernel_rfl)
  refine Call_Name1 ?_
  refine nmB (v := .type "list") B H ?_
  refine PyProof.Rows.callWith_type rfl (evalArgs1 ?_)
  refine Call_Name1 ?_
  refine nmB (v := .type "range") B H ?_
  refine PyProof.Rows.callWith_type rfl (evalArgs1 ?_)
  refine Call_Name1 ?_
  refine nmB (v := .builtin "len") B H ?_
  refine cw1 ?_
  refine nmC (L := L) (by assumption) (by walk_at "m_take") (by walk_at "m_mem") ?_
  refine z_len H (show Take (zR vA (vtsOf scr)) _ _ from (by walk_at "m_take")) (by omega) fun t5 s5 H => ?_
  refine r_call H fun r s6 H => ?_
  refine z_range hA.hd H Take.head (by omega) fun nA s7 H => ?_
  refine stC (L := L) H (by walk_at "m_take") (by walk_at "m_upl") fun s8 H => ?_
  show W _ _ _ _ _
  exact cont _ (by kernel_rfl) tp tS tT vA wA rA nA s8 (show Hs g z (frR L (cellsOf w 484 L) [("script", (some (.ref scA))), ("pick", (some (.int (scr.getD 0 1) tp))), ("seats", (some (.int (seatsOf scr) tS))), ("k", none), ("votes", (some (.ref vA))), ("total", (some (.int (vtsOf scr).sum tT))), ("whole", (some (.ref wA))), ("rests", (some (.ref rA))), ("names", (some (.ref nA))), ("problem", none), ("ways", none), ("gains", none), ("told", none), ("only", none), ("best", none), ("strays", none), ("a", none), ("b", none), ("moved", none)] :: zR vA (vtsOf scr) :: zR wA (flL (vtsOf scr) (seatsOf scr)) :: zR rA (remL (vtsOf scr) (seatsOf scr)) :: zR nA (List.map (fun i : Nat => (i : Int)) (List.range (vtsOf scr).length)) :: R) _ from H.sub (by walk_at "m_sub"))
end
end
section
/-- the two values of each variable -/
def DomsTo (fl : List Int) (st : Int → DS) (ns : List Int) : Prop := ∀ k ∈ ns, ∃ t u, st k = ⟨[.int (fl.getD k.toNat 0) t, .int (fl.getD k.toNat 0 + 1) u], [], []⟩
structure WaysOk (vts : List Int) (S : Int) (ws : List (List Int)) : Prop where
  nd : ws.Nodup
  ext : ∀ x, x ∈ ws ↔ IsWay vts S x
  len : ws.length ≤ 100
theorem ns_at {vts : List Int} {i : Nat} (hi : i < vts.length) : (nsOf vts)[i]? = some (i : Int) := by unfold nsOf; rw [List.getElem?_map, List.getElem?_range hi]; rfl
theorem ns_len {vts : List Int} : (nsOf vts).length = vts.length := by unfold nsOf; simp
theorem ns_mem {vts : List Int} {k : Int} : k ∈ nsOf vts ↔ ∃ i : Nat, i < vts.length ∧ k = i := by
  unfold nsOf
  rw [List.mem_map]
  constructor
  · rintro ⟨i, hi, rfl⟩; exact ⟨i, List.mem_range.mp hi, rfl⟩
  · rintro ⟨i, hi, rfl⟩; exact ⟨i, List.mem_range.mpr hi, rfl⟩
theorem ns_nd {vts : List Int} : (nsOf vts).Nodup := by
  unfold nsOf
  refine List.pairwise_map.mpr ((List.nodup_range (n := vts.length)).imp fun h e => h (by omega))
theorem map_ns {vts : List Int} {α : Type} (f : Int → α) : (nsOf vts).map f = (List.range vts.length).map fun i : Nat => f i := by unfold nsOf; rw [List.map_map]; rfl
theorem getD_map_range {n i : Nat} {f : Nat → Int} (hi : i < n) : ((List.range n).map f).getD i 0 = f i := by
  rw [List.getD_eq_getElem?_getD, List.getElem?_map, List.getElem?_range hi]; rfl
theorem comp_way {vts : List Int} {S : Int} {st : Int → DS} (hd : DomsTo (flL vts S) st (nsOf vts)) (x : List Int) : Comp S (nsOf vts) [] st x ↔ IsWay vts S x := by
  constructor
  · rintro ⟨f, rfl, _, h3, h4⟩
    refine ⟨by rw [List.length_map, ns_len], fun i hi => ?_, h4⟩
    rw [map_ns, getD_map_range hi]
    have hk : (i : Int) ∈ nsOf vts := ns_mem.mpr ⟨i, hi, rfl⟩
    obtain ⟨t, u, e⟩ := hd i hk
    have := h3 i hk rfl
    rw [e] at this
    simp only [List.map_cons, List.map_nil, List.mem_cons, List.not_mem_nil, or_false, intOf, Int.toNat_natCast] at this
    exact this
  · rintro ⟨h1, h2, h3⟩
    have e : x = (nsOf vts).map fun k => x.getD k.toNat 0 := by
      rw [map_ns]
      refine list_ext (by simp [h1]) fun j hj => ?_
      rw [getD_map_range (by omega)]; rfl
    refine ⟨fun k => x.getD k.toNat 0, e, fun k _ v h => (by cases h), fun k hk _ => ?_, by rw [← e]; exact h3⟩
    obtain ⟨i, hi, rfl⟩ := ns_mem.mp hk
    obtain ⟨t, u, e⟩ := hd i hk
    rw [e]
    simp only [List.map_cons, List.map_nil, List.mem_cons, List.not_mem_nil, or_false, intOf, Int.toNat_natCast]
    exact h2 i hi
section
variable {w : World} {A : Around} {g : Heap} {z s s' : Shared} {M M' R : List Res} {env : Env}
theorem fam_add {df : Int → DA4} {st : Int → DS} {pre : List Int} {k : Int} {d : DS} {a : DA4} (hn : (pre ++ [k]).Nodup) (H : Hs g z M s) (pk : Pick M [dom1 a d, famR df st pre] R) :
    Hs g z (famR (fun j => if j = k then a else df j) (upd st k d) (pre ++ [k]) :: R) s := by
  have H : Hs g z (dom1 a d :: famR df st pre :: R) s := H.pick pk
  have hk : ∀ j ∈ pre, j ≠ k := fun j hj e => by
    subst e
    exact (List.nodup_append.mp hn).2.2 j hj j (by simp) rfl
  have e : famR df st pre = sR ((pre ++ []).map fun j => dom1 ((fun j => if j = k then a else df j) j) (st j)) := by
    unfold famR
    rw [List.append_nil]
    congr 1
    exact List.map_congr_left fun j hj => by simp only [if_neg (hk j hj)]
  rw [e] at H
  have e2 : dom1 a d = dom1 ((fun j => if j = k then a else df j) k) d := by simp only [if_true]
  rw [e2] at H
  exact fam_in hn H
theorem kvs_at {α : Type} [BEq α] {f : Int → Value} : ∀ {ns : List Int} {k : Int}, (∀ j ∈ ns, j ≠ k) → valueAt (ns.map fun j => (j, f j)) k = none := fun {ns k} h => va_none.mpr fun p hp => by
  obtain ⟨j, hj, rfl⟩ := List.mem_map.mp hp
  exact h j hj
set_option maxHeartbeats 16000000 in
/-- the law up to the ways -/
theorem law_b {L scA vA wA rA nA : Addr} {vts : List Int} {S pk : Int} {tp tS tT : Tok} {Q : Flow → Shared → Prop} (hV : Votes vts S) (hA : Ok 340 A) (B : Base w g) (H : Hs g z (frR L (cellsOf w 484 L) [("script", (some (.ref scA))), ("pick", (some (.int pk tp))), ("seats", (some (.int S tS))), ("k", none), ("votes", (some (.ref vA))), ("total", (some (.int vts.sum tT))), ("whole", (some (.ref wA))), ("rests", (some (.ref rA))), ("names", (some (.ref nA))), ("problem", none), ("ways", none), ("gains", none), ("told", none), ("only", none), ("best", none), ("strays", none), ("a", none), ("b", none), ("moved", none)] :: zR vA vts :: zR wA (flL vts S) :: zR rA (remL vts S) ::  zR nA (nsOf vts) :: R) s)
    (cont : ∀ last, (bodyOf w 484).drop 10 = last → ∀ z' pa wy ko l s', z'.os = z.os → (AllBare z.gens → AllBare z'.gens) → WaysOk vts S (l.map (·.2)) → Hs g z' (frR L (cellsOf w 484 L) [("script", (some (.ref scA))), ("pick", (some (.int pk tp))), ("seats", (some (.int S tS))), ("k", ko), ("votes", (some (.ref vA))), ("total", (some (.int vts.sum tT))), ("whole", (some (.ref wA))), ("rests", (some (.ref rA))), ("names", (some (.ref nA))), ("problem", (some (.ref pa))), ("ways", (some (.ref wy))), ("gains", none), ("told", none), ("only", none), ("best", none), ("strays", none), ("a", none), ("b", none), ("moved", none)] :: lR wy (l.map fun p => .ref p.1) :: zsR l :: zR vA vts :: zR wA (flL vts S) :: zR rA (remL vts S) ::  zR nA (nsOf vts) :: R) s' → W w A (execs last (callEnvC (fdOf w 484) L 484)) Q s') :
    W w A (execs ((bodyOf w 484).drop 6) (callEnvC (fdOf w 484) L 484)) Q s := by
  have hsl : sizeLine = 2 ^ 24 := rfl
  have hl2 := hV.l2
  have hl4 := hV.l4
  have hnl : (nsOf vts).length = vts.length := ns_len
  obtain ⟨hT1, hT2, hT3⟩ := hV.tot
  have hs1 := hV.s1
  have hfl : (flL vts S).length = vts.length := fl_len
  have hfa : ∀ k ∈ nsOf vts, (flL vts S)[k.toNat]? = some ((flL vts S).getD k.toNat 0) ∧ 0 ≤ (flL vts S).getD k.toNat 0 ∧ (flL vts S).getD k.toNat 0 + 1 ≤ S ∧ 0 ≤ k := fun k hk => by
    obtain ⟨i, hi, rfl⟩ := ns_mem.mp hk
    have h1 : (flL vts S)[i]? = some ((flL vts S).getD i 0) := by rw [List.getD_eq_getElem?_getD, List.getElem?_eq_getElem (by omega)]; rfl
    have := hV.div (v_mem hi)
    rw [Int.toNat_natCast, fl_at hi] at *
    exact ⟨h1, this.1, by omega, by omega⟩
  with_unfolding_all refine wpAny_execs_cons ?_
  refine wpAny_Assign_Name ?_ (by kernel_rfl)
  refine Call_Name1 ?_
  refine nmG (v := .ref 163) B H ?_
  refine cwK rfl (evalArgs1 ?_)
  refine Call_Name1 ?_
  refine nmG (v := .ref 479) B H ?_
  refine cwK rfl (evalArgs1 ?_)
  refine nmL (by assumption) (by walk_at "m_take") (by walk_at "m_mem") ?_
  refine ⟨rfl, B.x H, ?_⟩
  refine fn_solver (n := 300) (hA.le (by omega)) B H fun C f sv sd fb s1 hcf H => ?_
  have hgk : GetOk w g C f sv sd fb := by
    rcases hcf with ⟨rfl, rfl⟩ | ⟨rfl, rfl⟩
    · exact get_bt_ok B
    · exact get_rec_ok B
  have hmk : methOk w C "getSolutions" f = true := by
    rcases hcf with ⟨rfl, rfl⟩ | ⟨rfl, rfl⟩ <;> kernel_rfl
  have hfk : fnOk w f = true := by
    rcases hcf with ⟨rfl, rfl⟩ | ⟨rfl, rfl⟩ <;> kernel_rfl
  have hnb : findIn (Kf w) (.ref C) "__bool__" = some none := by
    rcases hcf with ⟨rfl, rfl⟩ | ⟨rfl, rfl⟩ <;> kernel_rfl
  have hnn : findIn (Kf w) (.ref C) "__len__" = some none := by
    rcases hcf with ⟨rfl, rfl⟩ | ⟨rfl, rfl⟩ <;> kernel_rfl
  refine ⟨rfl, B.x H, ?_⟩
  refine mk_pr (k := 300) (hA.le (by omega)) B H (fun s' A' L' x dx l Q H q => ?_) fun pa pd cl va s2 H => ?_
  · obtain ⟨oc, ec, _⟩ := H.get (x := fcR sd fb) (by walk_at "m_take")
    exact truthy_own (dx := sd) (od := some oc) B H ⟨i_at H (x := sv) (by walk_at "m_take"), rfl, rfl, ec⟩ q hnb hnn
  refine stL (L := L) H (by walk_at "m_take") (by walk_at "m_upl") fun s3 H => ?_
  show W _ _ _ _ _
  refine wpAny_execs_cons ?_
  refine for_ ?_
  refine nmC (L := L) (by assumption) (by walk_at "m_take") (by walk_at "m_mem") ?_
  refine z_iter H (show Take (zR nA (nsOf vts)) _ _ from (by walk_at "m_take")) fun I s4 H => ?_
  have H : Hs g z (famR (fun _ => ⟨0, 0, 0, 0⟩) (fun _ => ⟨[], [], []⟩) [] :: _) s4 := Hs.shut (l := []) H
  refine ⟨g, z, (nsOf vts).length, _, _, _, fun i M => ∃ df st ep ko, DomsTo (flL vts S) st ((nsOf vts).take i) ∧ M = frR L (cellsOf w 484 L) [("script", (some (.ref scA))), ("pick", (some (.int pk tp))), ("seats", (some (.int S tS))), ("k", ko), ("votes", (some (.ref vA))), ("total", (some (.int vts.sum tT))), ("whole", (some (.ref wA))), ("rests", (some (.ref rA))), ("names", (some (.ref nA))), ("problem", (some (.ref pa))), ("ways", none), ("gains", none), ("told", none), ("only", none), ("best", none), ("strays", none), ("a", none), ("b", none), ("moved", none)] :: famR df st ((nsOf vts).take i) :: dR w va (((nsOf vts).take i).map fun k => (k, .ref (df k).d)) ep :: iR pa 163 pd :: prR pd sv cl va :: lR cl [] :: iR sv C sd :: fcR sd fb :: zR vA vts :: zR wA (flL vts S) :: zR rA (remL vts S) ::  zR nA (nsOf vts) :: R, _, iter_z hA.hd I nA (nsOf vts),
    ⟨fun _ => ⟨0, 0, 0, 0⟩, fun _ => ⟨[], [], []⟩, 0, none, fun k hk => (by simp at hk), rfl⟩, (show Hs g z (liR I nA 0 :: frR L (cellsOf w 484 L) [("script", (some (.ref scA))), ("pick", (some (.int pk tp))), ("seats", (some (.int S tS))), ("k", none), ("votes", (some (.ref vA))), ("total", (some (.int vts.sum tT))), ("whole", (some (.ref wA))), ("rests", (some (.ref rA))), ("names", (some (.ref nA))), ("problem", (some (.ref pa))), ("ways", none), ("gains", none), ("told", none), ("only", none), ("best", none), ("strays", none), ("a", none), ("b", none), ("moved", none)] :: famR (fun _ => ⟨0, 0, 0, 0⟩) (fun _ => ⟨[], [], []⟩) [] :: dR w va [] 0 :: iR pa 163 pd :: prR pd sv cl va :: lR cl [] :: iR sv C sd :: fcR sd fb :: zR vA vts :: zR wA (flL vts S) :: zR rA (remL vts S) ::  zR nA (nsOf vts) :: R) s4 from H.sub (by walk_at "m_sub")), ?_, ?_, ?_⟩
  · rintro i M s ⟨df, st, ep, ko, _, rfl⟩ H; exact has_z (l := nA) H (by walk_at "m_take")
  · rintro i M v s hi ⟨df, st, ep, ko, hd, rfl⟩ ⟨k, t, hk, rfl⟩ H
    have hkm := List.mem_of_getElem? hk
    obtain ⟨hf1, hf2, hf3, hf4⟩ := hfa k hkm
    have htk : (nsOf vts).take (i + 1) = (nsOf vts).take i ++ [k] := by rw [List.take_add_one, hk]; rfl
    have hnd : ((nsOf vts).take i ++ [k]).Nodup := by rw [← htk]; exact (List.take_sublist _ _).nodup ns_nd
    have hne : ∀ j ∈ (nsOf vts).take i, j ≠ k := fun j hj e => by
      subst e
      exact (List.nodup_append.mp hnd).2.2 j hj j (by simp) rfl
    refine wpAny_assign_Name ?_
    refine stL (L := L) H (by walk_at "m_take") (by walk_at "m_upl") fun s5 H => ?_
    with_unfolding_all refine wpAny_execs_cons ?_
    refine wpAny_Expr ?_ (by kernel_rfl) (by kernel_rfl)
    refine callM ?_
    refine nmL (by assumption) (by walk_at "m_take") (by walk_at "m_mem") ?_
    refine pr_meth (f := 117) B H (show Take (iR pa 163 pd) _ _ from (by walk_at "m_take")) (by walk_at "m_take") (by intros; kernel_rfl) ?_
    refine cwF ?_
    refine evalArgs_plain (spliced_cons ?_)
    refine nmL (by assumption) (by walk_at "m_take") (by walk_at "m_mem") ?_
    refine spliced_cons ?_
    refine Mine.list_ (spliced_cons ?_)
    refine sub_z ?_
    refine nmC (L := L) (by assumption) (by walk_at "m_take") (by walk_at "m_mem") ?_
    refine nmL (by assumption) (by walk_at "m_take") (by walk_at "m_mem") ?_
    refine ⟨g, z, _, _, wA, k, t, _, (flL vts S).getD k.toNat 0, rfl, rfl, H, (show Take (zR wA (flL vts S)) _ _ from (by walk_at "m_take")), by omega, .inl ⟨hf4, hf1⟩, fun t14 => ?_⟩
    refine spliced_cons ?_
    refine wpAny_BinOp ?_
    refine sub_z ?_
    refine nmC (L := L) (by assumption) (by walk_at "m_take") (by walk_at "m_mem") ?_
    refine nmL (by assumption) (by walk_at "m_take") (by walk_at "m_mem") ?_
    refine ⟨g, z, _, _, wA, k, t, _, (flL vts S).getD k.toNat 0, rfl, rfl, H, (show Take (zR wA (flL vts S)) _ _ from (by walk_at "m_take")), by omega, .inl ⟨hf4, hf1⟩, fun t15 => ?_⟩
    refine con_ H fun t16 s16 H => ?_
    refine add_ H fun t17 s17 H => ?_
    refine spliced_nil ?_
    refine ⟨g, z, _, H, by simp; omega, fun bA s18 H => ?_⟩
    refine spliced_nil ?_
    refine ⟨rfl, B.x H, ?_⟩
    refine fn_addv (n := 300) (hA.le (by omega)) B H (by apply Pick.cons; exact (show Take (iR pa 163 pd) _ _ from (by walk_at "m_take")); walk_at "m_pick") (by simp) (by simp) (by rw [List.length_map, List.length_take]; omega) (kvs_at (α := Int) hne) fun d dd hl sl ep' s19 H => ?_
    have H : Hs g z (dom1 ⟨d, dd, hl, sl⟩ ⟨[.int ((flL vts S).getD k.toNat 0) t14, .int ((flL vts S).getD k.toNat 0 + 1) t17], [], []⟩ :: _) s19 := H
    have H := fam_add hnd H (by walk_at "m_pick")
    show W _ _ _ _ _
    refine wpAny_execs_nil ?_
    have em : (((nsOf vts).take i).map fun k => (k, Value.ref (df k).d)) ++ [(k, Value.ref d)] = ((nsOf vts).take (i + 1)).map fun j => (j, Value.ref ((fun j => if j = k then (⟨d, dd, hl, sl⟩ : DA4) else df j) j).d) := by
      rw [htk, List.map_append]
      congr 1
      · exact List.map_congr_left fun j hj => by simp only [if_neg (hne j hj)]
      · simp
    rw [em, ← htk] at H
    refine ⟨_, ⟨_, _, ep', some (.int k t), fun j hj => ?_, rfl⟩, H.sub (by walk_at "m_sub")⟩
    rw [htk] at hj
    rcases List.mem_append.mp hj with hj | hj
    · unfold upd; rw [if_neg (hne j hj)]; exact hd j hj
    · rw [List.mem_singleton.mp hj]
      exact ⟨t14, t17, by unfold upd; rw [if_pos rfl]⟩
  rintro M s ⟨df, st, ep, ko, hd, rfl⟩ H
  rw [List.take_of_length_le (Nat.le_refl _)] at hd H
  refine wpAny_execs_nil ?_
  show W _ _ _ _ _
  refine wpAny_execs_cons ?_
  refine wpAny_Expr ?_ (by kernel_rfl) (by kernel_rfl)
  refine callM ?_
  refine nmL (by assumption) (by walk_at "m_take") (by walk_at "m_mem") ?_
  refine pr_meth (f := 132) B H (show Take (iR pa 163 pd) _ _ from (by walk_at "m_take")) (by walk_at "m_take") (by intros; kernel_rfl) ?_
  refine cwF ?_
  refine evalArgs_plain (spliced_cons ?_)
  refine Call_Name1 ?_
  refine nmG (v := .ref 463) B H ?_
  refine cwK rfl (evalArgs1 ?_)
  refine nmC (L := L) (by assumption) (by walk_at "m_take") (by walk_at "m_mem") ?_
  refine ⟨rfl, B.x H, ?_⟩
  refine mk_es (k := 300) (hA.le (by omega)) B H fun c cd s5 H => ?_
  refine spliced_cons ?_
  refine nmC (L := L) (by assumption) (by walk_at "m_take") (by walk_at "m_mem") ?_
  refine spliced_nil ?_
  refine ⟨rfl, B.x H, ?_⟩
  refine fn_addc (n := 300) (hA.le (by omega)) B H (by apply Pick.cons; exact (show Take (iR pa 163 pd) _ _ from (by walk_at "m_take")); apply Pick.cons; exact (show Take (prR pd sv cl va) _ _ from (by walk_at "m_take")); apply Pick.cons; exact (show Take (lR cl []) _ _ from (by walk_at "m_take")); walk_at "m_pick") (by simp) fun t0 s6 H => ?_
  rw [List.nil_append] at H
  show W _ _ _ _ _
  refine wpAny_execs_cons ?_
  obtain ⟨nm, hnm, H⟩ := H.ofz (show Take (zR nA (nsOf vts)) _ _ from (by walk_at "m_take"))
  refine asg_comp1_ "way" ?_
  refine callM ?_
  refine nmL (by assumption) (by walk_at "m_take") (by walk_at "m_mem") ?_
  refine pr_meth (f := 146) B H (show Take (iR pa 163 pd) _ _ from (by walk_at "m_take")) (by walk_at "m_take") (by intros; kernel_rfl) ?_
  refine cwF ?_
  refine PyProof.Rows.evalArgs_none ⟨rfl, B.x H, ?_⟩
  refine fn_sols (ns := nsOf vts) (st := st) (S := S) (R := frR L (cellsOf w 484 L) [("script", (some (.ref scA))), ("pick", (some (.int pk tp))), ("seats", (some (.int S tS))), ("k", ko), ("votes", (some (.ref vA))), ("total", (some (.int vts.sum tT))), ("whole", (some (.ref wA))), ("rests", (some (.ref rA))), ("names", (some (.ref nA))), ("problem", (some (.ref pa))), ("ways", none), ("gains", none), ("told", none), ("only", none), ("best", none), ("strays", none), ("a", none), ("b", none), ("moved", none)] :: zR vA vts :: zR wA (flL vts S) :: zR rA (remL vts S) ::  R) hgk hmk hfk (hA.le (by omega)) B (H.sub (by walk_at "m_sub")) hnm ns_nd (by omega) (by omega) (fun k hk => ?_) (fun k hk => ?_) (fun k hk => ?_) (fun k hk => ?_) (fun k hk => ?_) (fun k hk => ?_) fun X Y z' s7 hSol hYl hz hgb H => ?_
  · obtain ⟨t, u, e⟩ := hd k hk
    rw [e]
    exact ⟨fun v hv => by simp at hv; rcases hv with rfl | rfl <;> rfl, by simp only [List.map_cons, List.map_nil, intOf, List.pairwise_cons, List.mem_singleton, forall_eq, List.not_mem_nil, false_implies, implies_true, List.Pairwise.nil, and_true]; omega, by simp, by simp⟩
  · obtain ⟨t, u, e⟩ := hd k hk
    rw [e]; simp
  · obtain ⟨t, u, e⟩ := hd k hk
    rw [e]; exact ⟨rfl, rfl⟩
  · obtain ⟨t, u, e⟩ := hd k hk
    obtain ⟨hf1, hf2, hf3, hf4⟩ := hfa k hk
    rw [e]
    intro x hx
    simp at hx
    rcases hx with rfl | rfl
    · show (flL vts S).getD k.toNat 0 ≤ S; omega
    · show (flL vts S).getD k.toNat 0 + 1 ≤ S; omega
  · obtain ⟨t, u, e⟩ := hd k hk
    rw [e]; simp
  · obtain ⟨t, u, e⟩ := hd k hk
    obtain ⟨hf1, hf2, hf3, hf4⟩ := hfa k hk
    rw [e]
    intro x hx
    simp at hx
    rcases hx with rfl | rfl
    · show 0 ≤ (flL vts S).getD k.toNat 0; omega
    · show 0 ≤ (flL vts S).getD k.toNat 0 + 1; omega
  have H := (H.sub (xs := lR nA nm :: lR X (Y.map fun q => .ref q.1) :: solsR w Y :: frR L (cellsOf w 484 L) [("script", (some (.ref scA))), ("pick", (some (.int pk tp))), ("seats", (some (.int S tS))), ("k", ko), ("votes", (some (.ref vA))), ("total", (some (.int vts.sum tT))), ("whole", (some (.ref wA))), ("rests", (some (.ref rA))), ("names", (some (.ref nA))), ("problem", (some (.ref pa))), ("ways", none), ("gains", none), ("told", none), ("only", none), ("best", none), ("strays", none), ("a", none), ("b", none), ("moved", none)] :: zR vA vts :: zR wA (flL vts S) :: zR rA (remL vts S) ::  R) (by walk_at "m_sub")).toz hnm
  refine l_iter H (show Take (lR X (Y.map fun q => .ref q.1)) _ _ from (by walk_at "m_take")) fun I s8 H => ?_
  have H := zs_nil H
  refine ⟨g, z', (Y.map fun q => Value.ref q.1).length, _, _, _, fun i ys M => ∃ l : List (Addr × List Int), l.length = i ∧ l.map (·.2) = (Y.take i).map (fun q => (nsOf vts).map (vAt q.2)) ∧ ys = l.map (fun p => .ref p.1) ∧ M = zsR l :: frR L (cellsOf w 484 L) [("script", (some (.ref scA))), ("pick", (some (.int pk tp))), ("seats", (some (.int S tS))), ("k", ko), ("votes", (some (.ref vA))), ("total", (some (.int vts.sum tT))), ("whole", (some (.ref wA))), ("rests", (some (.ref rA))), ("names", (some (.ref nA))), ("problem", (some (.ref pa))), ("ways", none), ("gains", none), ("told", none), ("only", none), ("best", none), ("strays", none), ("a", none), ("b", none), ("moved", none)] :: zR nA (nsOf vts) :: lR X (Y.map fun q => .ref q.1) :: solsR w Y :: zR vA vts :: zR wA (flL vts S) :: zR rA (remL vts S) ::  R, _, iter_list hA.hd I X _,
    ⟨[], rfl, rfl, rfl, rfl⟩, H.sub (by walk_at "m_sub"), by simp; omega, ?_, ?_, ?_, ?_⟩
  · rintro i ys M s ⟨l, _, _, _, rfl⟩ H; exact has_seq (a := X) H (by walk_at "m_take")
  · rintro i ys M ⟨l, e, _, rfl, rfl⟩; simp [e]
  · rintro C1 D l0 i ys M v s hl hi ⟨l, hll, hlm, rfl, rfl⟩ hv H
    obtain ⟨o0, rfl⟩ := one_name hl
    rw [List.getElem?_map] at hv
    obtain ⟨r, hr, rfl⟩ := Option.map_eq_some_iff.mp hv
    have hrm := List.mem_of_getElem? hr
    refine wpAny_assign_Name ?_
    refine stC (L := C1) H (by walk_at "m_take") (by walk_at "m_upl") fun s9 H => ?_
    refine wpAny_tests_nil ?_
    rw [if_pos rfl]
    refine comp_ ["k"] ?_
    refine nmC (L := L) (by assumption) (by walk_at "m_take") (by walk_at "m_mem") ?_
    refine z_iter H (show Take (zR nA (nsOf vts)) _ _ from (by walk_at "m_take")) fun I2 s10 H => ?_
    refine ⟨g, z', (nsOf vts).length, _, _, _, fun j ys M => IntsAre ys (((nsOf vts).map (vAt r.2)).take j) ∧ M = frR C1 [("way", C1 + 1)] [("way", some (.ref r.1))] :: liR I X (i + 1) :: lR D (l.map fun p => .ref p.1) :: zsR l :: frR L (cellsOf w 484 L) [("script", (some (.ref scA))), ("pick", (some (.int pk tp))), ("seats", (some (.int S tS))), ("k", ko), ("votes", (some (.ref vA))), ("total", (some (.int vts.sum tT))), ("whole", (some (.ref wA))), ("rests", (some (.ref rA))), ("names", (some (.ref nA))), ("problem", (some (.ref pa))), ("ways", none), ("gains", none), ("told", none), ("only", none), ("best", none), ("strays", none), ("a", none), ("b", none), ("moved", none)] :: zR nA (nsOf vts) :: lR X (Y.map fun q => .ref q.1) :: solsR w Y :: zR vA vts :: zR wA (flL vts S) :: zR rA (remL vts S) ::  R, _, iter_z hA.hd I2 nA (nsOf vts),
      ⟨.nil, rfl⟩, H.sub (by walk_at "m_sub"), by omega, ?_, ?_, ?_, ?_⟩
    · rintro i ys M s ⟨_, rfl⟩ H; exact has_z (l := nA) H (by walk_at "m_take")
    · rintro i ys M ⟨h, rfl⟩; rw [nm_len h, List.length_take, List.length_map]; omega
    · rintro C2 D2 l0 j ys M v s hl hj ⟨hys, rfl⟩ ⟨k, t, hk, rfl⟩ H
      obtain ⟨o2, rfl⟩ := one_name hl
      have hkm := List.mem_of_getElem? hk
      obtain ⟨v, hv, hvi⟩ := hSol.val r hrm k hkm
      obtain ⟨y, ty, rfl⟩ := isInt_ex hvi
      refine wpAny_assign_Name ?_
      refine stL H (by walk_at "m_take") (by walk_at "m_upl") fun s12 H => ?_
      refine wpAny_tests_nil ?_
      rw [if_pos rfl]
      refine sub_sol ?_
      refine nmC (L := C1) (by assumption) (by walk_at "m_take") (by walk_at "m_mem") ?_
      refine nmL (by assumption) (by walk_at "m_take") (by walk_at "m_mem") ?_
      refine ⟨g, z', _, _, Y, r, k, t, _, rfl, rfl, H, (show Take (solsR w Y) _ _ from (by walk_at "m_take")), hrm, hv, fun s13 H => ?_⟩
      have hfi : ((nsOf vts).map (vAt r.2))[j]? = some y := by rw [List.getElem?_map, hk]; show some (vAt r.2 k) = _; unfold vAt; rw [hv]; rfl
      refine ⟨[("k", some (.int k t))], _, rfl, ⟨?_, rfl⟩, H⟩
      rw [List.take_add_one, hfi]
      exact ints_snoc hys
    rintro zA ys M s ⟨hys, rfl⟩ H
    rw [List.take_of_length_le (by rw [List.length_map]; omega)] at hys
    have H := H.toz hys
    have H := zs_add H (by walk_at "m_pick")
    refine ⟨[("way", some (.ref r.1))], _, rfl, ⟨l ++ [(zA, (nsOf vts).map (vAt r.2))], by simp [hll], ?_, by simp, rfl⟩, H.sub (by walk_at "m_sub")⟩
    rw [List.take_add_one, hr, List.map_append, hlm, List.map_append]; rfl
  rintro C1 l0 wy ys M s ⟨l, hll, hlm, rfl, rfl⟩ H
  refine stL (L := L) H (show Take (frR L (cellsOf w 484 L) [("script", (some (.ref scA))), ("pick", (some (.int pk tp))), ("seats", (some (.int S tS))), ("k", ko), ("votes", (some (.ref vA))), ("total", (some (.int vts.sum tT))), ("whole", (some (.ref wA))), ("rests", (some (.ref rA))), ("names", (some (.ref nA))), ("problem", (some (.ref pa))), ("ways", none), ("gains", none), ("told", none), ("only", none), ("best", none), ("strays", none), ("a", none), ("b", none), ("moved", none)]) _ _ from (by walk_at "m_take")) (by walk_at "m_upl") fun s20 H => ?_
  refine ⟨_, H.sub (xs := frR C1 [("way", C1 + 1)] l0 :: frR L (cellsOf w 484 L) [("script", (some (.ref scA))), ("pick", (some (.int pk tp))), ("seats", (some (.int S tS))), ("k", ko), ("votes", (some (.ref vA))), ("total", (some (.int vts.sum tT))), ("whole", (some (.ref wA))), ("rests", (some (.ref rA))), ("names", (some (.ref nA))), ("problem", (some (.ref pa))), ("ways", (some (.ref wy))), ("gains", none), ("told", none), ("only", none), ("best", none), ("strays", none), ("a", none), ("b", none), ("moved", none)] :: lR wy (l.map fun p => .ref p.1) :: zsR l :: zR vA vts :: zR wA (flL vts S) :: zR rA (remL vts S) ::  zR nA (nsOf vts) :: R) (by walk_at "m_sub"), fun s21 H => ?_⟩
  rw [List.length_map] at hll
  rw [List.take_of_length_le (by rw [List.length_map]; omega)] at hlm
  refine cont _ (by kernel_rfl) z' pa wy ko l s21 hz hgb ⟨by rw [hlm]; exact hSol.nd, fun x => by rw [hlm, hSol.ext]; exact comp_way hd x, by rw [List.length_map]; omega⟩ H
end
end
section
def upsL (vts : List Int) (S : Int) (x : List Int) (j : Nat) : List Int := ((List.range j).filter (upB vts S x)).map fun i => (remL vts S).getD i 0
theorem ups_succ {vts : List Int} {S : Int} {x : List Int} {j : Nat} : upsL vts S x (j + 1) = upsL vts S x j ++ if upB vts S x j then [(remL vts S).getD j 0] else [] := by
  unfold upsL
  rw [List.range_succ, List.filter_append, List.map_append]
  congr 1
  cases h : upB vts S x j <;> simp [h]
theorem ups_sum {vts : List Int} {S : Int} {x : List Int} : ∀ {j : Nat}, (upsL vts S x j).sum = sm j fun i => if upB vts S x i then (remL vts S).getD i 0 else 0
  | 0 => rfl
  | j + 1 => by
    rw [ups_succ, List.sum_append, ups_sum, sm_succ]
    cases upB vts S x j <;> simp
theorem ups_mem {vts : List Int} {S : Int} {x : List Int} {j : Nat} {k : Int} (h : k ∈ upsL vts S x j) : ∃ i, i < j ∧ k = (remL vts S).getD i 0 := by
  obtain ⟨i, hi, rfl⟩ := List.mem_map.mp h
  exact ⟨i, List.mem_range.mp (List.mem_filter.mp hi).1, rfl⟩
theorem ups_len {vts : List Int} {S : Int} {x : List Int} {j : Nat} : (upsL vts S x j).length ≤ j := by
  unfold upsL
  rw [List.length_map]
  exact Nat.le_trans (List.length_filter_le _ _) (by simp)
theorem ups_small {vts : List Int} {S : Int} {x : List Int} (hV : Votes vts S) : Small (upsL vts S x vts.length) := by
  have := hV.l4
  have := ups_len (vts := vts) (S := S) (x := x) (j := vts.length)
  obtain ⟨hT1, hT2, _⟩ := hV.tot
  refine ⟨by omega, fun k hk => ?_⟩
  obtain ⟨i, hi, rfl⟩ := ups_mem hk
  have := rem_bnd hV hi
  omega
section
variable {w : World} {A : Around} {g : Heap} {z s s' : Shared} {M M' R : List Res} {env : Env}
theorem z_get {a : Addr} {vs : List Value} {ns : List Int} {n : Nat} {k : Int} {u : Tok} {x : Int} {Q : Value → Shared → Prop} (hi : IntsAre vs ns) (e : s.heap.get? a = some ⟨.type "list", none, .seq vs.toArray n, #[]⟩) (hl : ns.length ≤ 1000) (h0 : 0 ≤ k) (hx : ns[k.toNat]? = some x) (q : ∀ t, Q (.int x t) s) : W w A (getItem (.ref a) (.int k u)) Q s := by
  have hlen := nm_len hi
  have hlt := (List.getElem?_eq_some_iff.mp hx).1
  have hv : vs[k.toNat]? = some vs[k.toNat] := List.getElem?_eq_getElem (by omega)
  obtain ⟨y, ty, hy, ey⟩ := nm_get hi hv
  rw [hx] at hy; cases hy
  rw [ey] at hv
  exact wpAny_getItem_list (items := vs.toArray) ⟨_, e, rfl, n, rfl⟩ h0 (by omega) (by simpa using hv) (q ty)
set_option maxHeartbeats 16000000 in
/-- the law's gains, and what largest_remainder told -/
theorem law_c {L scA vA wA rA nA pa wy : Addr} {ko : Option Value} {l : List (Addr × List Int)} {vts : List Int} {S pk : Int} {tp tS tT : Tok} {Q : Flow → Shared → Prop} (hV : Votes vts S) (hW : WaysOk vts S (l.map (·.2))) (hA : Ok 40 A) (B : Base w g) (H : Hs g z (frR L (cellsOf w 484 L) [("script", (some (.ref scA))), ("pick", (some (.int pk tp))), ("seats", (some (.int S tS))), ("k", ko), ("votes", (some (.ref vA))), ("total", (some (.int vts.sum tT))), ("whole", (some (.ref wA))), ("rests", (some (.ref rA))), ("names", (some (.ref nA))), ("problem", (some (.ref pa))), ("ways", (some (.ref wy))), ("gains", none), ("told", none), ("only", none), ("best", none), ("strays", none), ("a", none), ("b", none), ("moved", none)] :: lR wy (l.map fun p => .ref p.1) :: zsR l :: zR vA vts :: zR wA (flL vts S) :: zR rA (remL vts S) ::  zR nA (nsOf vts) :: R) s)
    (cont : ∀ last, (bodyOf w 484).drop 13 = last → ∀ gA tA s', Hs g z (frR L (cellsOf w 484 L) [("script", (some (.ref scA))), ("pick", (some (.int pk tp))), ("seats", (some (.int S tS))), ("k", ko), ("votes", (some (.ref vA))), ("total", (some (.int vts.sum tT))), ("whole", (some (.ref wA))), ("rests", (some (.ref rA))), ("names", (some (.ref nA))), ("problem", (some (.ref pa))), ("ways", (some (.ref wy))), ("gains", (some (.ref gA))), ("told", (some (.ref tA))), ("only", none), ("best", none), ("strays", none), ("a", none), ("b", none), ("moved", none)] :: zR gA (l.map fun p => gainL vts S p.2) :: zR tA (lrTold vts S).1 :: lR wy (l.map fun p => .ref p.1) :: zsR l :: zR vA vts :: zR wA (flL vts S) :: zR rA (remL vts S) ::  zR nA (nsOf vts) :: R) s' → W w A (execs last (callEnvC (fdOf w 484) L 484)) Q s') :
    W w A (execs ((bodyOf w 484).drop 10) (callEnvC (fdOf w 484) L 484)) Q s := by
  have hsl : sizeLine = 2 ^ 24 := rfl
  have hl2 := hV.l2
  have hl4 := hV.l4
  have hnl : (nsOf vts).length = vts.length := ns_len
  obtain ⟨hT1, hT2, hT3⟩ := hV.tot
  have hs1 := hV.s1
  have hfl : (flL vts S).length = vts.length := fl_len
  have hrl : (remL vts S).length = vts.length := rem_len
  have hwl : l.length ≤ 100 := by have := hW.len; rw [List.length_map] at this; exact this
  with_unfolding_all refine wpAny_execs_cons ?_
  refine wpAny_Assign_Name ?_ (by kernel_rfl)
  refine comp1_ "way" ?_
  refine nmL (by assumption) (by walk_at "m_take") (by walk_at "m_mem") ?_
  refine l_iter H (show Take (lR wy (l.map fun p => .ref p.1)) _ _ from (by walk_at "m_take")) fun I s8 H => ?_
  refine ⟨g, z, (l.map fun p => Value.ref p.1).length, _, _, _, fun i ys M => IntsAre ys ((l.map fun p => gainL vts S p.2).take i) ∧ M = frR L (cellsOf w 484 L) [("script", (some (.ref scA))), ("pick", (some (.int pk tp))), ("seats", (some (.int S tS))), ("k", ko), ("votes", (some (.ref vA))), ("total", (some (.int vts.sum tT))), ("whole", (some (.ref wA))), ("rests", (some (.ref rA))), ("names", (some (.ref nA))), ("problem", (some (.ref pa))), ("ways", (some (.ref wy))), ("gains", none), ("told", none), ("only", none), ("best", none), ("strays", none), ("a", none), ("b", none), ("moved", none)] :: lR wy (l.map fun p => .ref p.1) :: zsR l :: zR vA vts :: zR wA (flL vts S) :: zR rA (remL vts S) ::  zR nA (nsOf vts) :: R, _, iter_list hA.hd I wy _,
    ⟨.nil, rfl⟩, H.sub (by walk_at "m_sub"), by rw [List.length_map]; omega, ?_, ?_, ?_, ?_⟩
  · rintro i ys M s ⟨_, rfl⟩ H; exact has_seq (a := wy) H (by walk_at "m_take")
  · rintro i ys M ⟨h, rfl⟩; rw [nm_len h, List.length_take]; omega
  · rintro C1 D l0 i ys0 M v s hl hi ⟨hys0, rfl⟩ hv H
    obtain ⟨o0, rfl⟩ := one_name hl
    rw [List.getElem?_map] at hv
    obtain ⟨r, hr, rfl⟩ := Option.map_eq_some_iff.mp hv
    have hrm := List.mem_of_getElem? hr
    have hway : IsWay vts S r.2 := (hW.ext _).mp (List.mem_map_of_mem hrm)
    have hwl2 := hway.len
    refine wpAny_assign_Name ?_
    refine stC (L := C1) H (by walk_at "m_take") (by walk_at "m_upl") fun s9 H => ?_
    refine wpAny_tests_nil ?_
    rw [if_pos rfl]
    refine Call_Name1 ?_
    refine nmB (v := .builtin "sum") B H ?_
    refine cw1 ?_
    refine comp_ ["k"] ?_
    refine nmC (L := L) (by assumption) (by walk_at "m_take") (by walk_at "m_mem") ?_
    refine z_iter H (show Take (zR nA (nsOf vts)) _ _ from (by walk_at "m_take")) fun I2 s10 H => ?_
    refine ⟨g, z, (nsOf vts).length, _, _, _, fun j ys M => IntsAre ys (upsL vts S r.2 j) ∧ M = frR C1 [("way", C1 + 1)] [("way", some (.ref r.1))] :: liR I wy (i + 1) :: lR D ys0 :: frR L (cellsOf w 484 L) [("script", (some (.ref scA))), ("pick", (some (.int pk tp))), ("seats", (some (.int S tS))), ("k", ko), ("votes", (some (.ref vA))), ("total", (some (.int vts.sum tT))), ("whole", (some (.ref wA))), ("rests", (some (.ref rA))), ("names", (some (.ref nA))), ("problem", (some (.ref pa))), ("ways", (some (.ref wy))), ("gains", none), ("told", none), ("only", none), ("best", none), ("strays", none), ("a", none), ("b", none), ("moved", none)] :: lR wy (l.map fun p => .ref p.1) :: zsR l :: zR vA vts :: zR wA (flL vts S) :: zR rA (remL vts S) ::  zR nA (nsOf vts) :: R, _, iter_z hA.hd I2 nA (nsOf vts),
      ⟨.nil, rfl⟩, H.sub (by walk_at "m_sub"), by omega, ?_, ?_, ?_, ?_⟩
    · rintro i ys M s ⟨_, rfl⟩ H; exact has_z (l := nA) H (by walk_at "m_take")
    · rintro i ys M ⟨h, rfl⟩; rw [nm_len h]; exact ups_len
    · rintro C2 D2 l0 j ys M v s hl hj ⟨hys, rfl⟩ ⟨k, t, hk, rfl⟩ H
      obtain ⟨o2, rfl⟩ := one_name hl
      rw [hnl] at hj
      rw [ns_at hj] at hk
      cases hk
      have hxj : r.2[((j : Int)).toNat]? = some (r.2.getD j 0) := by rw [Int.toNat_natCast, List.getD_eq_getElem?_getD, List.getElem?_eq_getElem (by omega)]; rfl
      have hfj : (flL vts S)[((j : Int)).toNat]? = some ((flL vts S).getD j 0) := by rw [Int.toNat_natCast, List.getD_eq_getElem?_getD, List.getElem?_eq_getElem (by omega)]; rfl
      have hrj : (remL vts S)[((j : Int)).toNat]? = some ((remL vts S).getD j 0) := by rw [Int.toNat_natCast, List.getD_eq_getElem?_getD, List.getElem?_eq_getElem (by omega)]; rfl
      refine wpAny_assign_Name ?_
      refine stL H (by walk_at "m_take") (by walk_at "m_upl") fun s12 H => ?_
      refine wpAny_tests_one ?_
      refine wpAny_isTrue_Compare1 ?_
      refine sub_lst ?_
      refine nmC (L := C1) (by assumption) (by walk_at "m_take") (by walk_at "m_mem") ?_
      refine nmL (by assumption) (by walk_at "m_take") (by walk_at "m_mem") ?_
      obtain ⟨vs1, n1, hi1, e1⟩ := zs_at H (show Take (zsR l) _ _ from (by walk_at "m_take")) hrm
      refine ⟨r.1, j, t, vs1, n1, rfl, rfl, e1, ?_⟩
      refine z_get hi1 e1 (by omega) (by omega) hxj fun t13 => ?_
      refine sub_z ?_
      refine nmC (L := L) (by assumption) (by walk_at "m_take") (by walk_at "m_mem") ?_
      refine nmL (by assumption) (by walk_at "m_take") (by walk_at "m_mem") ?_
      refine ⟨g, z, _, _, wA, j, t, _, (flL vts S).getD j 0, rfl, rfl, H, (show Take (zR wA (flL vts S)) _ _ from (by walk_at "m_take")), by omega, .inl ⟨by omega, hfj⟩, fun t14 => ?_⟩
      refine PySem.P.gt_int (wpAny_truthy_bool ?_)
      have hub : decide (r.2.getD j 0 > (flL vts S).getD j 0) = upB vts S r.2 j := rfl
      rw [hub]
      cases hu : upB vts S r.2 j with
      | false =>
        rw [if_neg (by decide)]
        refine ⟨[("k", some (.int j t))], _, rfl, ⟨?_, rfl⟩, H⟩
        rw [ups_succ, hu, if_neg (by decide), List.append_nil]; exact hys
      | true =>
        rw [if_pos rfl]
        refine sub_z ?_
        refine nmC (L := L) (by assumption) (by walk_at "m_take") (by walk_at "m_mem") ?_
        refine nmL (by assumption) (by walk_at "m_take") (by walk_at "m_mem") ?_
        refine ⟨g, z, _, _, rA, j, t, _, (remL vts S).getD j 0, rfl, rfl, H, (show Take (zR rA (remL vts S)) _ _ from (by walk_at "m_take")), by omega, .inl ⟨by omega, hrj⟩, fun t15 => ?_⟩
        refine ⟨[("k", some (.int j t))], _, rfl, ⟨?_, rfl⟩, H⟩
        rw [ups_succ, hu, if_pos rfl]; exact ints_snoc hys
    rintro zA ys M s ⟨hys, rfl⟩ H
    rw [hnl] at hys
    have H := H.toz hys
    refine z_sum hA.hd H Take.head (ups_small hV) fun t16 s16 H => ?_
    rw [ups_sum]
    have hfi : (l.map fun p => gainL vts S p.2)[i]? = some (gainL vts S r.2) := by rw [List.getElem?_map, hr]; rfl
    refine ⟨[("way", some (.ref r.1))], _, rfl, ⟨?_, rfl⟩, H.sub (by walk_at "m_sub")⟩
    rw [List.take_add_one, hfi]
    exact ints_snoc hys0
  rintro gA ys M s ⟨hys, rfl⟩ H
  rw [List.take_of_length_le (by simp)] at hys
  have H := H.toz hys
  refine stC (L := L) H (show Take (frR L (cellsOf w 484 L) [("script", (some (.ref scA))), ("pick", (some (.int pk tp))), ("seats", (some (.int S tS))), ("k", ko), ("votes", (some (.ref vA))), ("total", (some (.int vts.sum tT))), ("whole", (some (.ref wA))), ("rests", (some (.ref rA))), ("names", (some (.ref nA))), ("problem", (some (.ref pa))), ("ways", (some (.ref wy))), ("gains", none), ("told", none), ("only", none), ("best", none), ("strays", none), ("a", none), ("b", none), ("moved", none)]) _ _ from (by walk_at "m_take")) (by walk_at "m_upl") fun s20 H => ?_
  show W _ _ _ _ _
  refine wpAny_execs_cons ?_
  refine wpAny_Assign_Name ?_ (by kernel_rfl)
  refine Call_Name1 ?_
  refine nmB (v := .type "list") B H ?_
  refine PyProof.Rows.callWith_type rfl (evalArgs1 ?_)
  refine Call_ ?_
  refine nmG (v := .ref 55) B H ?_
  refine cwK rfl (evalArgs_plain (spliced_cons ?_))
  refine nmC (L := L) (by assumption) (by walk_at "m_take") (by walk_at "m_mem") ?_
  refine spliced_cons ?_
  refine nmC (L := L) (by assumption) (by walk_at "m_take") (by walk_at "m_mem") ?_
  refine spliced_nil ?_
  refine ⟨rfl, B.x H, ?_⟩
  refine fn_lr2 hV (hA.le (by omega)) B H (show Take (zR vA vts) _ _ from (by walk_at "m_take")) fun r s21 H => ?_
  have htw := told_way hV
  have htl := htw.len
  refine z_list H Take.head (by omega) fun tA s22 H => ?_
  refine stC (L := L) H (show Take (frR L (cellsOf w 484 L) [("script", (some (.ref scA))), ("pick", (some (.int pk tp))), ("seats", (some (.int S tS))), ("k", ko), ("votes", (some (.ref vA))), ("total", (some (.int vts.sum tT))), ("whole", (some (.ref wA))), ("rests", (some (.ref rA))), ("names", (some (.ref nA))), ("problem", (some (.ref pa))), ("ways", (some (.ref wy))), ("gains", (some (.ref gA))), ("told", none), ("only", none), ("best", none), ("strays", none), ("a", none), ("b", none), ("moved", none)]) _ _ from (by walk_at "m_take")) (by walk_at "m_upl") fun s23 H => ?_
  have H : Hs g z (zR tA (lrTold vts S).1 :: zsR l :: frR L (cellsOf w 484 L) [("script", (some (.ref scA))), ("pick", (some (.int pk tp))), ("seats", (some (.int S tS))), ("k", ko), ("votes", (some (.ref vA))), ("total", (some (.int vts.sum tT))), ("whole", (some (.ref wA))), ("rests", (some (.ref rA))), ("names", (some (.ref nA))), ("problem", (some (.ref pa))), ("ways", (some (.ref wy))), ("gains", (some (.ref gA))), ("told", (some (.ref tA))), ("only", none), ("best", none), ("strays", none), ("a", none), ("b", none), ("moved", none)] :: zR gA (l.map fun p => gainL vts S p.2) :: lR wy (l.map fun p => .ref p.1) :: zR vA vts :: zR wA (flL vts S) :: zR rA (remL vts S) ::  zR nA (nsOf vts) :: R) s23 := H.sub (by walk_at "m_sub")
  show W _ _ _ _ _
  refine wpAny_execs_cons ?_
  refine wpAny_If (isTrue_or (wpAny_isTrue_Compare1 ?_))
  refine nmC (L := L) (by assumption) (by walk_at "m_take") (by walk_at "m_mem") ?_
  refine nmL (by assumption) (by walk_at "m_take") (by walk_at "m_mem") ?_
  refine z_notin (k := 30) (hA.le (by omega)) H (show Take (lR wy (l.map fun p => .ref p.1)) _ _ from (by walk_at "m_take")) (wpAny_truthy_bool ?_)
  rw [if_neg (by simp only [(hW.ext _).mpr htw]; decide)]
  refine isTrue_or (wpAny_isTrue_Compare1 ?_)
  refine Call_Name1 ?_
  refine nmB (v := .type "list") B H ?_
  refine PyProof.Rows.callWith_type rfl (evalArgs1 ?_)
  refine Call_ ?_
  refine nmG (v := .ref 42) B H ?_
  refine cwK rfl (evalArgs_plain (spliced_cons ?_))
  refine wpAny_Constant_str (k := 0) (pos := ⟨0, 0, 0, 0⟩) ?_
  have H := H.tok (s23.toks + 1)
  refine spliced_cons ?_
  refine nmC (L := L) (by assumption) (by walk_at "m_take") (by walk_at "m_mem") ?_
  refine spliced_cons ?_
  refine nmC (L := L) (by assumption) (by walk_at "m_take") (by walk_at "m_mem") ?_
  refine spliced_nil ?_
  refine ⟨rfl, B.x H, ?_⟩
  refine fn_compute hV (hA.le (by omega)) B H (show Take (zR vA vts) _ _ from (by walk_at "m_take")) fun r2 s24 H => ?_
  refine z_list H Take.head (by omega) fun uA s25 H => ?_
  refine nmC (L := L) (by assumption) (by walk_at "m_take") (by walk_at "m_mem") ?_
  have H : Hs g z (zR uA (lrTold vts S).1 :: zR tA (lrTold vts S).1 :: zsR l :: frR L (cellsOf w 484 L) [("script", (some (.ref scA))), ("pick", (some (.int pk tp))), ("seats", (some (.int S tS))), ("k", ko), ("votes", (some (.ref vA))), ("total", (some (.int vts.sum tT))), ("whole", (some (.ref wA))), ("rests", (some (.ref rA))), ("names", (some (.ref nA))), ("problem", (some (.ref pa))), ("ways", (some (.ref wy))), ("gains", (some (.ref gA))), ("told", (some (.ref tA))), ("only", none), ("best", none), ("strays", none), ("a", none), ("b", none), ("moved", none)] :: zR gA (l.map fun p => gainL vts S p.2) :: lR wy (l.map fun p => .ref p.1) :: zR vA vts :: zR wA (flL vts S) :: zR rA (remL vts S) ::  zR nA (nsOf vts) :: R) s25 := H.sub (by walk_at "m_sub")
  refine z_ne (k := 30) (hA.le (by omega)) H Take.head (Take.tail Take.head) (wpAny_truthy_bool ?_)
  rw [if_neg (by simp)]
  refine isTrue_or_nil ?_
  rw [if_neg (by decide)]
  refine wpAny_execs_nil ?_
  show W _ _ _ _ _
  exact cont _ (by kernel_rfl) gA tA s25 (H.sub (by walk_at "m_sub"))
end
end
section
section
variable {w : World} {A : Around} {g : Heap} {z s s' : Shared} {M M' R : List Res} {env : Env}
theorem cwKE {f : Value} {pos : Pos} {first : List Value} {args : List (Bool × Sem Value)} {Q : Value → Shared → Prop} {E : Value → Shared → Prop} (hplain : args.any (·.1) = false)
    (h : wpAny (model pr w) A (evalArgs f true args []) (fun a s₁ => a.kw = [] ∧ (Kf w).In s₁.heap ∧ wpAny (model pr w) A (call f (first ++ a.pos)) Q E s₁) E s) (hk : keepIn (Kf w) f = true := by kernel_rfl) :
    wpAny (model pr w) A (callWith pos f first args []) Q E s :=
  callWith_of (by rw [hplain]; rfl) (keeps_K hk) (wpAny_mono h (fun a s₁ h₁ => ⟨h₁.2.1, by rw [h₁.1]; exact h₁.2.2⟩) fun _ _ f => f)
set_option maxHeartbeats 16000000 in
/-- the law's try -/
theorem law_d {p : Program} {loose : List Str} {mg mb : Str → Option Value} {L scA vA wA rA nA pa wy gA tA : Addr} {ko : Option Value} {l : List (Addr × List Int)} {vts : List Int} {S pk : Int} {tp tS tT : Tok} {Q : Flow → Shared → Prop} (hV : Votes vts S) (hA : Ok 40 A) (B : Base w g) (T : TopRead p loose mg mb g)
    (hfr : A.frames = some [callEnvC (fdOf w 484) L 484]) (H : Hs g z (frR L (cellsOf w 484 L) [("script", (some (.ref scA))), ("pick", (some (.int pk tp))), ("seats", (some (.int S tS))), ("k", ko), ("votes", (some (.ref vA))), ("total", (some (.int vts.sum tT))), ("whole", (some (.ref wA))), ("rests", (some (.ref rA))), ("names", (some (.ref nA))), ("problem", (some (.ref pa))), ("ways", (some (.ref wy))), ("gains", (some (.ref gA))), ("told", (some (.ref tA))), ("only", none), ("best", none), ("strays", none), ("a", none), ("b", none), ("moved", none)] :: zR gA (l.map fun p => gainL vts S p.2) :: zR tA (lrTold vts S).1 :: lR wy (l.map fun p => .ref p.1) :: zsR l :: zR vA vts :: zR wA (flL vts S) :: zR rA (remL vts S) ::  zR nA (nsOf vts) :: R) s)
    (cont : ∀ last, (bodyOf w 484).drop 14 = last → ∀ ov R' s', ((lrTold vts S).2 = true ∧ ov = .none ∧ R' = R ∨ (lrTold vts S).2 = false ∧ ∃ oA, ov = .ref oA ∧ R' = zR oA (lrTold vts S).1 :: R) → Hs g z (frR L (cellsOf w 484 L) [("script", (some (.ref scA))), ("pick", (some (.int pk tp))), ("seats", (some (.int S tS))), ("k", ko), ("votes", (some (.ref vA))), ("total", (some (.int vts.sum tT))), ("whole", (some (.ref wA))), ("rests", (some (.ref rA))), ("names", (some (.ref nA))), ("problem", (some (.ref pa))), ("ways", (some (.ref wy))), ("gains", (some (.ref gA))), ("told", (some (.ref tA))), ("only", (some (ov))), ("best", none), ("strays", none), ("a", none), ("b", none), ("moved", none)] :: zR gA (l.map fun p => gainL vts S p.2) :: zR tA (lrTold vts S).1 :: lR wy (l.map fun p => .ref p.1) :: zsR l :: zR vA vts :: zR wA (flL vts S) :: zR rA (remL vts S) ::  zR nA (nsOf vts) :: R') s' → W w A (execs last (callEnvC (fdOf w 484) L 484)) Q s') :
    W w A (execs ((bodyOf w 484).drop 13) (callEnvC (fdOf w 484) L 484)) Q s := by
  have hsl : sizeLine = 2 ^ 24 := rfl
  have hl4 := hV.l4
  have htl := (told_way hV).len
  with_unfolding_all refine wpAny_execs_cons ?_
  refine wpAny_Try_except ?_
  cases ht : (lrTold vts S).2 with
  | false =>
    refine W.any ?_
    refine wpAny_execs_cons ?_
    refine wpAny_Assign_Name ?_ (by kernel_rfl)
    refine Call_Name1 ?_
    refine nmB (v := .type "list") B H ?_
    refine PyProof.Rows.callWith_type rfl (evalArgs1 ?_)
    refine Call_ ?_
    refine nmG (v := .ref 55) B H ?_
    refine cwK rfl (evalArgs_plain (spliced_cons ?_))
    refine nmC (L := L) (by assumption) (by walk_at "m_take") (by walk_at "m_mem") ?_
    refine spliced_cons ?_
    refine nmC (L := L) (by assumption) (by walk_at "m_take") (by walk_at "m_mem") ?_
    refine spliced_cons ?_
    refine wpAny_Constant_bool (k := 0) (pos := ⟨0, 0, 0, 0⟩) ?_
    refine spliced_nil ?_
    refine ⟨rfl, B.x H, ?_⟩
    refine fn_lr3 (ta := false) hV (hA.le (by omega)) B H (show Take (zR vA vts) _ _ from (by walk_at "m_take")) (fun e => by rw [ht] at e; cases e) fun r s1 H => ?_
    refine z_list H Take.head (by omega) fun oA s2 H => ?_
    refine stL (L := L) H (show Take (frR L (cellsOf w 484 L) [("script", (some (.ref scA))), ("pick", (some (.int pk tp))), ("seats", (some (.int S tS))), ("k", ko), ("votes", (some (.ref vA))), ("total", (some (.int vts.sum tT))), ("whole", (some (.ref wA))), ("rests", (some (.ref rA))), ("names", (some (.ref nA))), ("problem", (some (.ref pa))), ("ways", (some (.ref wy))), ("gains", (some (.ref gA))), ("told", (some (.ref tA))), ("only", none), ("best", none), ("strays", none), ("a", none), ("b", none), ("moved", none)]) _ _ from (by walk_at "m_take")) (by walk_at "m_upl") fun s3 H => ?_
    show W _ _ _ _ _
    refine wpAny_execs_nil ?_
    show W _ _ _ _ _
    refine wpAny_execs_nil ?_
    exact cont _ (by kernel_rfl) (.ref oA) (zR oA (lrTold vts S).1 :: R) s3 (.inr ⟨ht, oA, rfl, rfl⟩) (show Hs g z (frR L (cellsOf w 484 L) [("script", (some (.ref scA))), ("pick", (some (.int pk tp))), ("seats", (some (.int S tS))), ("k", ko), ("votes", (some (.ref vA))), ("total", (some (.int vts.sum tT))), ("whole", (some (.ref wA))), ("rests", (some (.ref rA))), ("names", (some (.ref nA))), ("problem", (some (.ref pa))), ("ways", (some (.ref wy))), ("gains", (some (.ref gA))), ("told", (some (.ref tA))), ("only", (some (.ref oA))), ("best", none), ("strays", none), ("a", none), ("b", none), ("moved", none)] :: zR gA (l.map fun p => gainL vts S p.2) :: zR tA (lrTold vts S).1 :: lR wy (l.map fun p => .ref p.1) :: zsR l :: zR vA vts :: zR wA (flL vts S) :: zR rA (remL vts S) ::  zR nA (nsOf vts) :: zR oA (lrTold vts S).1 :: R) s3 from H.sub (by walk_at "m_sub"))
  | true =>
    refine wpAny_execs_cons ?_
    refine wpAny_Assign_Name ?_ (by kernel_rfl)
    refine Call_Name1 (W.any ?_)
    refine nmB (v := .type "list") B H ?_
    refine PyProof.Rows.callWith_type rfl (evalArgs_plain (spliced_cons ?_))
    refine Call_ (W.any ?_)
    refine nmG (v := .ref 55) B H ?_
    refine cwKE rfl (evalArgs_plain (spliced_cons (W.any ?_)))
    refine nmC (L := L) (by assumption) (by walk_at "m_take") (by walk_at "m_mem") ?_
    refine spliced_cons (W.any ?_)
    refine nmC (L := L) (by assumption) (by walk_at "m_take") (by walk_at "m_mem") ?_
    refine spliced_cons ?_
    refine wpAny_Constant_bool (k := 0) (pos := ⟨0, 0, 0, 0⟩) ?_
    refine spliced_nil ?_
    refine ⟨rfl, B.x H, ?_⟩
    have H : Hs g z (frR L (cellsOf w 484 L) [("script", (some (.ref scA))), ("pick", (some (.int pk tp))), ("seats", (some (.int S tS))), ("k", ko), ("votes", (some (.ref vA))), ("total", (some (.int vts.sum tT))), ("whole", (some (.ref wA))), ("rests", (some (.ref rA))), ("names", (some (.ref nA))), ("problem", (some (.ref pa))), ("ways", (some (.ref wy))), ("gains", (some (.ref gA))), ("told", (some (.ref tA))), ("only", none), ("best", none), ("strays", none), ("a", none), ("b", none), ("moved", none)] :: zR vA vts :: zR gA (l.map fun p => gainL vts S p.2) :: zR tA (lrTold vts S).1 :: lR wy (l.map fun p => .ref p.1) :: zsR l ::  zR wA (flL vts S) :: zR rA (remL vts S) :: zR nA (nsOf vts) :: R) s := H.sub (by walk_at "m_sub")
    refine fn_lr_raise hV (hA.le (by omega)) B T hfr (by rw [show (callEnvC (fdOf w 484) L 484).scope.kind = .function by kernel_rfl]; decide) rfl H ht fun L2 cs2 l2 a s1 s2 H r => ?_
    refine catch_ties B T hfr rfl H r (by kernel_rfl) (by kernel_rfl) (by kernel_rfl) fun s3 H => ?_
    refine wpAny_execs_cons ?_
    refine wpAny_Assign_Name ?_ (by kernel_rfl)
    refine wpAny_Constant_none ?_
    refine stL (L := L) H (by walk_at "m_take") (by walk_at "m_upl") fun s4 H => ?_
    show W _ _ _ _ _
    refine wpAny_execs_nil ?_
    exact cont _ (by kernel_rfl) .none R s4 (.inl ⟨ht, rfl, rfl⟩) (show Hs g z (frR L (cellsOf w 484 L) [("script", (some (.ref scA))), ("pick", (some (.int pk tp))), ("seats", (some (.int S tS))), ("k", ko), ("votes", (some (.ref vA))), ("total", (some (.int vts.sum tT))), ("whole", (some (.ref wA))), ("rests", (some (.ref rA))), ("names", (some (.ref nA))), ("problem", (some (.ref pa))), ("ways", (some (.ref wy))), ("gains", (some (.ref gA))), ("told", (some (.ref tA))), ("only", (some (.none))), ("best", none), ("strays", none), ("a", none), ("b", none), ("moved", none)] :: zR gA (l.map fun p => gainL vts S p.2) :: zR tA (lrTold vts S).1 :: lR wy (l.map fun p => .ref p.1) :: zsR l :: zR vA vts :: zR wA (flL vts S) :: zR rA (remL vts S) ::  zR nA (nsOf vts) :: R) s4 from H.sub (by walk_at "m_sub"))
end
end
section
section
variable {w : World} {A : Around} {g : Heap} {z s s' : Shared} {M M' R : List Res} {env : Env}
theorem asg_comp2_ {elt target iter : Expr} {ifs : List Expr} {scope : Scope} {pos spos py : Pos} {y : Str} {Q : Flow → Shared → Prop} (xs : List Str)
    (h : W w A (eval iter env) (fun xv s₁ => W w A (pyIter xv) (fun it s₂ => ∃ g z n P I Im Tv N, ∃ (J : Nat → List Value → List Res → Prop) (M₀ : List Res), Iter2 w A it n P I Im Tv N target ∧ J 0 [] M₀ ∧ Hs g z (I 0 :: M₀) s₂ ∧ n ≤ 10000 ∧
      (∀ i ys M s, J i ys M → Hs g z M s → N s.heap) ∧ (∀ i ys M, J i ys M → ys.length ≤ i) ∧ CompBody2 w A g z target elt ifs scope env xs n P I Tv J ∧
      (∀ C l D ys M s, J n ys M → Hs g z (frR C [] l :: lR D ys :: M) s → W w A (storeName env y (.ref D)) (fun _ s' => ∃ M', Hs g z (frR C [] l :: M') s' ∧ ∀ s'', Hs g z M' s'' → Q .next s'') s)) s₁) s)
    (hsw : swapsWith (.ListComp elt [⟨target, iter, ifs, 0⟩] scope pos) (some (.Name y py)) spos.line env = pure true := by kernel_rfl)
    (ok : scopeOk scope xs = true := by kernel_rfl) (hclos : closureFor scope env = pure (closOf scope.names env.cells) := by kernel_rfl) (hs : ∀ x, foldedSetIterable iter env x = pure x := by intro _; rfl) :
    W w A (exec (.Assign [.Name y py] (.ListComp elt [⟨target, iter, ifs, 0⟩] scope pos) spos) env) Q s := by
  have ok' := ok
  unfold scopeOk at ok'
  simp only [Bool.and_eq_true, beq_iff_eq, List.all_eq_true, bne_iff_ne, ne_eq, Bool.or_eq_true] at ok'
  obtain ⟨⟨⟨⟨hkind, hcell⟩, hloc⟩, hxs⟩, hnd⟩ := ok'
  rw [exec_Assign_Name_used _ _ _ _ hsw]
  refine wpAny_bind (wpAny_standAt (wpAny_bind ?_))
  show wpAny _ A (do let _ ← comprehension (.ListComp elt [⟨target, iter, ifs, 0⟩] scope pos) scope env _ (newList []) false (eval iter env) (some (assign (.Name y py) env))) _ _ s
  refine wpAny_bind (wpAny_mono (wpAny_comprehension_free (use := some (assign (.Name y py) env)) (Q := fun _ s' => Q .next s') rfl hs hclos hkind (fun x hx hl => (hloc x hx).resolve_left fun q => q hl)
    (wpAny_mono h (fun xv s₁ h₁ => wpAny_mono h₁ (fun it s₂ h₂ => ?_) fun _ _ f => f) fun _ _ f => f)) (fun _ s' hq => wpAny_pure (wpAny_pure hq)) fun _ _ e => e)
  obtain ⟨g, z, n, P, I, Im, Tv, N, J, M₀, It, j0, H, hsz, hN, hlen, body, done⟩ := h₂
  refine comp_core2 ok It j0 H hN hsz hlen body fun C D l ys M s hl hJ H => ?_
  show wpAny _ A (assign (.Name y py) env (.ref D)) _ _ _
  refine wpAny_assign_Name (wpAny_mono (done C l D ys M s hJ H) (fun _ s' h => ?_) fun _ _ f => f)
  obtain ⟨M', H', q⟩ := h
  obtain ⟨⟨m, hm, _⟩, _⟩ := H'.get Take.head
  exact ⟨m, hm, fun h' hs' => q _ (frR_but2 H' hs')⟩
theorem two_names {l : List (Str × Option Value)} {x y : Str} (h : l.map (·.1) = [x, y]) : ∃ o1 o2, l = [(x, o1), (y, o2)] := by
  match l, h with
  | [(a, o1), (b, o2)], h =>
    simp only [List.map_cons, List.map_nil] at h
    injection h with h1 h2
    injection h2 with h2 _
    subst h1; subst h2
    exact ⟨o1, o2, rfl⟩
def bestP (vts : List Int) (S : Int) (l : List (Addr × List Int)) (p : Addr × List Int) : Bool := l.all fun q => decide (gainL vts S q.2 ≤ gainL vts S p.2)
theorem best_eq {vts : List Int} {S x : Int} {l : List (Addr × List Int)} {p : Addr × List Int} (hp : p ∈ l) (hx : x ∈ l.map fun p => gainL vts S p.2) (hm : ∀ a ∈ l.map fun p => gainL vts S p.2, a ≤ x) : (gainL vts S p.2 == x) = bestP vts S l p := by
  rw [Bool.eq_iff_iff, beq_iff_eq]
  unfold bestP
  rw [List.all_eq_true]
  constructor
  · rintro h q hq
    rw [decide_eq_true_iff, h]
    exact hm _ (List.mem_map.mpr ⟨q, hq, rfl⟩)
  · intro h
    obtain ⟨q, hq, e⟩ := List.mem_map.mp hx
    have h1 := decide_eq_true_iff.mp (h q hq)
    have h2 := hm _ (List.mem_map.mpr ⟨p, hp, rfl⟩)
    omega
set_option maxHeartbeats 16000000 in
/-- the law's best ways -/
theorem law_e {L scA vA wA rA nA pa wy gA tA : Addr} {ko : Option Value} {ov : Value} {l : List (Addr × List Int)} {vts : List Int} {S pk : Int} {tp tS tT : Tok} {Q : Flow → Shared → Prop} (hl0 : 0 < l.length) (hwl : l.length ≤ 100) (hA : Ok 40 A) (B : Base w g) (H : Hs g z (frR L (cellsOf w 484 L) [("script", (some (.ref scA))), ("pick", (some (.int pk tp))), ("seats", (some (.int S tS))), ("k", ko), ("votes", (some (.ref vA))), ("total", (some (.int vts.sum tT))), ("whole", (some (.ref wA))), ("rests", (some (.ref rA))), ("names", (some (.ref nA))), ("problem", (some (.ref pa))), ("ways", (some (.ref wy))), ("gains", (some (.ref gA))), ("told", (some (.ref tA))), ("only", (some (ov))), ("best", none), ("strays", none), ("a", none), ("b", none), ("moved", none)] :: zR gA (l.map fun p => gainL vts S p.2) :: zR tA (lrTold vts S).1 :: lR wy (l.map fun p => .ref p.1) :: zsR l :: zR vA vts :: zR wA (flL vts S) :: zR rA (remL vts S) ::  zR nA (nsOf vts) :: R) s)
    (cont : ∀ last, (bodyOf w 484).drop 15 = last → ∀ bA s', Hs g z (frR L (cellsOf w 484 L) [("script", (some (.ref scA))), ("pick", (some (.int pk tp))), ("seats", (some (.int S tS))), ("k", ko), ("votes", (some (.ref vA))), ("total", (some (.int vts.sum tT))), ("whole", (some (.ref wA))), ("rests", (some (.ref rA))), ("names", (some (.ref nA))), ("problem", (some (.ref pa))), ("ways", (some (.ref wy))), ("gains", (some (.ref gA))), ("told", (some (.ref tA))), ("only", (some (ov))), ("best", (some (.ref bA))), ("strays", none), ("a", none), ("b", none), ("moved", none)] :: lR bA ((l.filter (bestP vts S l)).map fun p => .ref p.1) :: zR gA (l.map fun p => gainL vts S p.2) :: zR tA (lrTold vts S).1 :: lR wy (l.map fun p => .ref p.1) :: zsR l :: zR vA vts :: zR wA (flL vts S) :: zR rA (remL vts S) ::  zR nA (nsOf vts) :: R) s' → W w A (execs last (callEnvC (fdOf w 484) L 484)) Q s') :
    W w A (execs ((bodyOf w 484).drop 14) (callEnvC (fdOf w 484) L 484)) Q s := by
  have hsl : sizeLine = 2 ^ 24 := rfl
  with_unfolding_all refine wpAny_execs_cons ?_
  refine asg_comp2_ ["way", "gain"] ?_
  refine PyProof.Rows.Call_Name2 ?_
  refine nmB (v := .type "zip") B H ?_
  refine PyProof.Rows.callWith_type rfl (evalArgs_plain (spliced_cons ?_))
  refine nmL (by assumption) (by walk_at "m_take") (by walk_at "m_mem") ?_
  refine spliced_cons ?_
  refine nmC (L := L) (by assumption) (by walk_at "m_take") (by walk_at "m_mem") ?_
  refine spliced_nil ?_
  refine zip_call H (show Take (lR wy (l.map fun p => .ref p.1)) _ _ from (by walk_at "m_take")) (show Take (zR gA (l.map fun p => gainL vts S p.2)) _ _ from (by walk_at "m_take")) fun Z TI TO i1 i2 s1 hap H => ?_
  have It := fun elts x1 pos => zip_iter (w := w) (A := A) (xs := l.map fun p => Value.ref p.1) (gs := l.map fun p => gainL vts S p.2) (elts := elts) (x1 := x1) (pos := pos) hA.hd hap (by rw [List.length_map, List.length_map])
  refine (It [] 0 ⟨0, 0, 0, 0⟩).self g z 0 _ _ _ H ?_
  refine ⟨g, z, _, _, _, _, _, _, fun i ys M => ys = ((l.take i).filter (bestP vts S l)).map (fun p => .ref p.1) ∧ M = frR L (cellsOf w 484 L) [("script", (some (.ref scA))), ("pick", (some (.int pk tp))), ("seats", (some (.int S tS))), ("k", ko), ("votes", (some (.ref vA))), ("total", (some (.int vts.sum tT))), ("whole", (some (.ref wA))), ("rests", (some (.ref rA))), ("names", (some (.ref nA))), ("problem", (some (.ref pa))), ("ways", (some (.ref wy))), ("gains", (some (.ref gA))), ("told", (some (.ref tA))), ("only", (some (ov))), ("best", none), ("strays", none), ("a", none), ("b", none), ("moved", none)] :: zR gA (l.map fun p => gainL vts S p.2) :: zR tA (lrTold vts S).1 :: lR wy (l.map fun p => .ref p.1) :: zsR l :: zR vA vts :: zR wA (flL vts S) :: zR rA (remL vts S) ::  zR nA (nsOf vts) :: R, _, It _ _ _,
    ⟨rfl, rfl⟩, H, by rw [List.length_map]; omega, ?_, ?_, ?_, ?_⟩
  · rintro i ys M s ⟨_, rfl⟩ H
    exact ⟨qR_at H (show Take (lR wy (l.map fun p => .ref p.1)) _ _ from (by walk_at "m_take")), z_at H (show Take (zR gA (l.map fun p => gainL vts S p.2)) _ _ from (by walk_at "m_take"))⟩
  · rintro i ys M ⟨rfl, rfl⟩
    rw [List.length_map]
    exact Nat.le_trans (List.length_filter_le _ _) (by rw [List.length_take]; omega)
  · rintro C D l0 i ys M v s hl hi ⟨rfl, rfl⟩ ⟨a, rfl⟩ H
    obtain ⟨o1, o2, rfl⟩ := two_names hl
    obtain ⟨_, e, x, k, t, hx, hk, rfl⟩ := H.get (x := cR a fun o => ∃ x k t, (l.map fun p => Value.ref p.1)[i]? = some x ∧ (l.map fun p => gainL vts S p.2)[i]? = some k ∧ o = pairO x (.int k t)) (Take.tail (Take.tail (Take.tail Take.head)))
    rw [List.getElem?_map] at hx hk
    obtain ⟨r, hr, rfl⟩ := Option.map_eq_some_iff.mp hx
    rw [hr] at hk
    cases hk
    have hrm := List.mem_of_getElem? hr
    refine asg_tup hA.hd H (vs := [.ref r.1, .int (gainL vts S r.2) t]) (n := 0) e fun s2 H => ?_
    refine wpAny_assignInOrder_more (wpAny_assign_Name ?_)
    refine stL (L := C) H (by walk_at "m_take") (by walk_at "m_upl") fun s3 H => ?_
    refine wpAny_assignInOrder_more (wpAny_assign_Name ?_)
    refine stL (L := C) H (by walk_at "m_take") (by walk_at "m_upl") fun s4 H => ?_
    refine wpAny_assignInOrder_none ?_
    refine wpAny_tests_one ?_
    refine wpAny_isTrue_Compare1 ?_
    refine nmL (L := C) (by assumption) (by walk_at "m_take") (by walk_at "m_mem") ?_
    refine Call_Name1 ?_
    refine nmB (v := .builtin "max") B H ?_
    refine cw1 ?_
    refine nmC (L := L) (by assumption) (by walk_at "m_take") (by walk_at "m_mem") ?_
    refine z_max hA.hd H (show Take (zR gA (l.map fun p => gainL vts S p.2)) _ _ from (by walk_at "m_take")) (by rw [List.length_map]; exact hl0) fun x t2 s5 hx hm H => ?_
    refine PySem.P.eq_int (wpAny_truthy_bool ?_)
    rw [best_eq hrm hx hm]
    have ht : (l.take (i + 1)).filter (bestP vts S l) = (l.take i).filter (bestP vts S l) ++ if bestP vts S l r then [r] else [] := by
      rw [List.take_add_one, hr, List.filter_append]
      cases h : bestP vts S l r <;> simp [h]
    cases hb : bestP vts S l r with
    | false =>
      rw [if_neg (by decide)]
      refine ⟨[("way", some (.ref r.1)), ("gain", some (.int (gainL vts S r.2) t))], _, rfl, ⟨?_, rfl⟩, H.sub (by walk_at "m_sub")⟩
      rw [ht, hb, if_neg (by decide), List.append_nil]
    | true =>
      rw [if_pos rfl]
      refine nmL (L := C) (by assumption) (by walk_at "m_take") (by walk_at "m_mem") ?_
      refine ⟨[("way", some (.ref r.1)), ("gain", some (.int (gainL vts S r.2) t))], _, rfl, ⟨?_, rfl⟩, H.sub (by walk_at "m_sub")⟩
      rw [ht, hb, if_pos rfl, List.map_append]; rfl
  rintro C l0 bA ys M s ⟨rfl, rfl⟩ H
  rw [List.take_of_length_le (by rw [List.length_map]; exact Nat.le_refl _)] at H
  refine stL (L := L) H (show Take (frR L (cellsOf w 484 L) [("script", (some (.ref scA))), ("pick", (some (.int pk tp))), ("seats", (some (.int S tS))), ("k", ko), ("votes", (some (.ref vA))), ("total", (some (.int vts.sum tT))), ("whole", (some (.ref wA))), ("rests", (some (.ref rA))), ("names", (some (.ref nA))), ("problem", (some (.ref pa))), ("ways", (some (.ref wy))), ("gains", (some (.ref gA))), ("told", (some (.ref tA))), ("only", (some (ov))), ("best", none), ("strays", none), ("a", none), ("b", none), ("moved", none)]) _ _ from (by walk_at "m_take")) (by walk_at "m_upl") fun s20 H => ?_
  refine ⟨_, H.sub (xs := frR C [] l0 :: frR L (cellsOf w 484 L) [("script", (some (.ref scA))), ("pick", (some (.int pk tp))), ("seats", (some (.int S tS))), ("k", ko), ("votes", (some (.ref vA))), ("total", (some (.int vts.sum tT))), ("whole", (some (.ref wA))), ("rests", (some (.ref rA))), ("names", (some (.ref nA))), ("problem", (some (.ref pa))), ("ways", (some (.ref wy))), ("gains", (some (.ref gA))), ("told", (some (.ref tA))), ("only", (some (ov))), ("best", (some (.ref bA))), ("strays", none), ("a", none), ("b", none), ("moved", none)] :: lR bA ((l.filter (bestP vts S l)).map fun p => .ref p.1) :: zR gA (l.map fun p => gainL vts S p.2) :: zR tA (lrTold vts S).1 :: lR wy (l.map fun p => .ref p.1) :: zsR l :: zR vA vts :: zR wA (flL vts S) :: zR rA (remL vts S) ::  zR nA (nsOf vts) :: R) (by walk_at "m_sub"), fun s21 H => ?_⟩
  exact cont _ (by kernel_rfl) bA s21 H
end
end
section
theorem max_ex {α : Type} (f : α → Int) : ∀ {l : List α}, l ≠ [] → ∃ p ∈ l, ∀ q ∈ l, f q ≤ f p
  | [], h => absurd rfl h
  | [a], _ => ⟨a, by simp, fun q hq => by rw [List.mem_singleton.mp hq]; omega⟩
  | a :: b :: r, _ => by
    obtain ⟨p, hp, hm⟩ := max_ex f (l := b :: r) (by simp)
    by_cases h : f p ≤ f a
    · refine ⟨a, by simp, fun q hq => ?_⟩
      rcases List.mem_cons.mp hq with rfl | hq
      · omega
      · have := hm q hq; omega
    · refine ⟨p, List.mem_cons_of_mem _ hp, fun q hq => ?_⟩
      rcases List.mem_cons.mp hq with rfl | hq
      · omega
      · exact hm q hq
theorem two_mem {α : Type} {l : List α} {a b : α} (ha : a ∈ l) (hb : b ∈ l) (h : a ≠ b) : 2 ≤ l.length := by
  match l with
  | [] => cases ha
  | [x] => rw [List.mem_singleton.mp ha, List.mem_singleton.mp hb] at h; exact absurd rfl h
  | _ :: _ :: _ => simp
theorem best_two {vts : List Int} {S : Int} {l : List (Addr × List Int)} (hV : Votes vts S) (hW : WaysOk vts S (l.map (·.2))) (ht : (lrTold vts S).2 = true) : 2 ≤ (l.filter (bestP vts S l)).length := by
  have htw := (hW.ext _).mpr (told_way hV)
  have hne : l ≠ [] := fun e => by rw [e] at htw; simp at htw
  obtain ⟨p, hp, hm⟩ := max_ex (fun p : Addr × List Int => gainL vts S p.2) hne
  obtain ⟨x, hx, hxp, hg⟩ := best_more hV ht ((hW.ext _).mp (List.mem_map_of_mem hp))
  obtain ⟨q, hq, rfl⟩ := List.mem_map.mp ((hW.ext _).mpr hx)
  refine two_mem (a := p) (b := q) (List.mem_filter.mpr ⟨hp, List.all_eq_true.mpr fun r hr => decide_eq_true (hm r hr)⟩) (List.mem_filter.mpr ⟨hq, List.all_eq_true.mpr fun r hr => decide_eq_true (Int.le_trans (hm r hr) hg)⟩) fun e => hxp (by rw [e])
theorem best_only {vts : List Int} {S : Int} {l : List (Addr × List Int)} (hV : Votes vts S) (hW : WaysOk vts S (l.map (·.2))) (ht : (lrTold vts S).2 = false) : ∃ p, l.filter (bestP vts S l) = [p] ∧ p ∈ l ∧ p.2 = (lrTold vts S).1 := by
  have htw := (hW.ext _).mpr (told_way hV)
  obtain ⟨q, hq, hqe⟩ := List.mem_map.mp htw
  have hqb : q ∈ l.filter (bestP vts S l) := List.mem_filter.mpr ⟨hq, List.all_eq_true.mpr fun r hr => decide_eq_true (by
    rw [hqe]; exact (best_one hV ht ((hW.ext _).mp (List.mem_map_of_mem hr))).1)⟩
  have hall : ∀ p ∈ l.filter (bestP vts S l), p.2 = (lrTold vts S).1 := fun p hp => by
    obtain ⟨hp1, hp2⟩ := List.mem_filter.mp hp
    refine Classical.byContradiction fun hne => ?_
    have h1 := (best_one hV ht ((hW.ext _).mp (List.mem_map_of_mem hp1))).2 hne
    have h2 := decide_eq_true_iff.mp (List.all_eq_true.mp hp2 q hq)
    rw [hqe] at h2
    omega
  have hnd : ((l.filter (bestP vts S l)).map (·.2)).Nodup := (List.filter_sublist.map _).nodup hW.nd
  generalize l.filter (bestP vts S l) = m at *
  match m with
  | [] => cases hqb
  | [p] => 
    have e := List.mem_singleton.mp hqb
    exact ⟨p, rfl, e ▸ hq, hall p (by simp)⟩
  | p :: r :: _ =>
    have h1 := hall p (by simp)
    have h2 := hall r (by simp)
    rw [List.map_cons, List.map_cons, List.nodup_cons] at hnd
    exact absurd (by rw [h1, h2]; simp) hnd.1
section
variable {w : World} {A : Around} {g : Heap} {z s s' : Shared} {M M' R : List Res} {env : Env}
theorem ne_one {bA p oL oA : Addr} {us vs : List Value} {xs ys : List Int} {n1 n2 n3 n4 : Nat} {Q : Value → Shared → Prop} {k : Nat} (hA : Ok (k + 4) A)
    (e1 : s.heap.get? bA = some ⟨.type "list", none, .seq ([.ref p] : List Value).toArray n1, #[]⟩) (e2 : s.heap.get? p = some ⟨.type "list", none, .seq us.toArray n2, #[]⟩) (hi : IntsAre us xs)
    (e3 : s.heap.get? oL = some ⟨.type "list", none, .seq ([.ref oA] : List Value).toArray n3, #[]⟩) (e4 : s.heap.get? oA = some ⟨.type "list", none, .seq vs.toArray n4, #[]⟩) (hj : IntsAre vs ys)
    (q : Q (.bool (!decide (xs = ys))) s) : W w A (compareOp .NotEq (.ref bA) (.ref oL)) Q s := by
  have sh : ∀ ns : List Int, SeqAt.shaped (.list [.list (ns.map PyData.int)]) = true := fun ns => by
    have h1 := W.depthAll_ints ns
    have h2 : PyData.depth (.list [.list (ns.map PyData.int)]) ≤ 64 := by simp only [PyData.depth, PyData.depthAll]; omega
    show (PyData.canLay0 (.list [.list (ns.map PyData.int)]) && decide (PyData.depth (.list [.list (ns.map PyData.int)]) ≤ 64)) = true
    rw [Bool.and_eq_true]
    exact ⟨by simp only [PyData.canLay0, PyData.canLayAll0, W.canLayAll0_ints, Bool.and_self], decide_eq_true h2⟩
  have r1 : Reads s.heap (.ref bA) (.list [.list (xs.map PyData.int)]) (bA :: ([p] ++ [])) := Reads.list e1 rfl rfl (.cons (W.reads_of_ints ⟨_, e2, rfl, n2, rfl⟩ hi) .nil)
  have r2 : Reads s.heap (.ref oL) (.list [.list (ys.map PyData.int)]) (oL :: ([oA] ++ [])) := Reads.list e3 rfl rfl (.cons (W.reads_of_ints ⟨_, e4, rfl, n4, rfl⟩ hj) .nil)
  refine ne_dataH_same r1 r2 (sh _) (sh _) (by have := hA.un; show A.units + 64 < 9900; omega) (by simp only [SeqAt.noMix, SeqAt.noMixAll, W.noMix_ints, Bool.and_self]) ?_
  simp only [PySem.Spec.same, PySem.Spec.sameAll, W.same_ints, Bool.and_true]
  exact q
set_option maxHeartbeats 16000000 in
/-- the law's end at a tie -/
theorem law_f {L scA vA wA rA nA pa wy gA tA bA : Addr} {ko : Option Value} {l : List (Addr × List Int)} {vts : List Int} {S pk : Int} {tp tS tT : Tok} {Q : Flow → Shared → Prop} (hV : Votes vts S) (hW : WaysOk vts S (l.map (·.2))) (ht : (lrTold vts S).2 = true) (B : Base w g) (H : Hs g z (frR L (cellsOf w 484 L) [("script", (some (.ref scA))), ("pick", (some (.int pk tp))), ("seats", (some (.int S tS))), ("k", ko), ("votes", (some (.ref vA))), ("total", (some (.int vts.sum tT))), ("whole", (some (.ref wA))), ("rests", (some (.ref rA))), ("names", (some (.ref nA))), ("problem", (some (.ref pa))), ("ways", (some (.ref wy))), ("gains", (some (.ref gA))), ("told", (some (.ref tA))), ("only", (some (.none))), ("best", (some (.ref bA))), ("strays", none), ("a", none), ("b", none), ("moved", none)] :: lR bA ((l.filter (bestP vts S l)).map fun p => .ref p.1) :: zR gA (l.map fun p => gainL vts S p.2) :: zR tA (lrTold vts S).1 :: lR wy (l.map fun p => .ref p.1) :: zsR l :: zR vA vts :: zR wA (flL vts S) :: zR rA (remL vts S) ::  zR nA (nsOf vts) :: R) s)
    (q : ∀ M s', Hs g z M s' → Q (.ret (.bool true)) s') :
    W w A (execs ((bodyOf w 484).drop 15) (callEnvC (fdOf w 484) L 484)) Q s := by
  have hsl : sizeLine = 2 ^ 24 := rfl
  have hb2 := best_two hV hW ht
  have hwl := hW.len
  rw [List.length_map] at hwl
  have hfl := List.length_filter_le (bestP vts S l) l
  with_unfolding_all refine wpAny_execs_cons ?_
  refine wpAny_If (wpAny_isTrue_Compare1 ?_)
  refine nmL (by assumption) (by walk_at "m_take") (by walk_at "m_mem") ?_
  refine wpAny_Constant_none ?_
  refine wpAny_pure (a := Value.bool true) (wpAny_truthy_bool ?_)
  rw [if_pos rfl]
  refine wpAny_execs_cons ?_
  refine wpAny_Return_some (wpAny_Compare1 ?_)
  refine Call_Name1 ?_
  refine nmB (v := .builtin "len") B H ?_
  refine cw1 ?_
  refine nmL (by assumption) (by walk_at "m_take") (by walk_at "m_mem") ?_
  obtain ⟨n, e⟩ := qR_at H (show Take (lR bA ((l.filter (bestP vts S l)).map fun p => .ref p.1)) _ _ from (by walk_at "m_take"))
  refine len_list H e (by rw [List.length_map]; omega) fun t1 s1 H => ?_
  refine con_ H fun t2 s2 H => ?_
  refine PySem.P.gt_int ?_
  rw [List.length_map, decide_eq_true (by omega)]
  exact q _ _ H
set_option maxHeartbeats 16000000 in
/-- the law without a tie: only is the best way -/
theorem law_g {L scA vA wA rA nA pa wy gA tA bA oA : Addr} {ko : Option Value} {l : List (Addr × List Int)} {vts : List Int} {S pk : Int} {tp tS tT : Tok} {Q : Flow → Shared → Prop} (hV : Votes vts S) (hW : WaysOk vts S (l.map (·.2))) (ht : (lrTold vts S).2 = false) (hA : Ok 40 A) (H : Hs g z (frR L (cellsOf w 484 L) [("script", (some (.ref scA))), ("pick", (some (.int pk tp))), ("seats", (some (.int S tS))), ("k", ko), ("votes", (some (.ref vA))), ("total", (some (.int vts.sum tT))), ("whole", (some (.ref wA))), ("rests", (some (.ref rA))), ("names", (some (.ref nA))), ("problem", (some (.ref pa))), ("ways", (some (.ref wy))), ("gains", (some (.ref gA))), ("told", (some (.ref tA))), ("only", (some (.ref oA))), ("best", (some (.ref bA))), ("strays", none), ("a", none), ("b", none), ("moved", none)] :: lR bA ((l.filter (bestP vts S l)).map fun p => .ref p.1) :: zR gA (l.map fun p => gainL vts S p.2) :: zR tA (lrTold vts S).1 :: lR wy (l.map fun p => .ref p.1) :: zsR l :: zR vA vts :: zR wA (flL vts S) :: zR rA (remL vts S) ::  zR nA (nsOf vts) :: zR oA (lrTold vts S).1 :: R) s)
    (cont : ∀ last, (bodyOf w 484).drop 17 = last → ∀ s', Hs g z (frR L (cellsOf w 484 L) [("script", (some (.ref scA))), ("pick", (some (.int pk tp))), ("seats", (some (.int S tS))), ("k", ko), ("votes", (some (.ref vA))), ("total", (some (.int vts.sum tT))), ("whole", (some (.ref wA))), ("rests", (some (.ref rA))), ("names", (some (.ref nA))), ("problem", (some (.ref pa))), ("ways", (some (.ref wy))), ("gains", (some (.ref gA))), ("told", (some (.ref tA))), ("only", (some (.ref oA))), ("best", (some (.ref bA))), ("strays", none), ("a", none), ("b", none), ("moved", none)] :: zR gA (l.map fun p => gainL vts S p.2) :: zR tA (lrTold vts S).1 :: lR wy (l.map fun p => .ref p.1) :: zsR l :: zR vA vts :: zR wA (flL vts S) :: zR rA (remL vts S) ::  zR nA (nsOf vts) :: R) s' → W w A (execs last (callEnvC (fdOf w 484) L 484)) Q s') :
    W w A (execs ((bodyOf w 484).drop 15) (callEnvC (fdOf w 484) L 484)) Q s := by
  have hsl : sizeLine = 2 ^ 24 := rfl
  obtain ⟨p, hpf, hpm, hpe⟩ := best_only hV hW ht
  rw [hpf] at H
  with_unfolding_all refine wpAny_execs_cons ?_
  refine wpAny_If (wpAny_isTrue_Compare1 ?_)
  refine nmL (by assumption) (by walk_at "m_take") (by walk_at "m_mem") ?_
  refine wpAny_Constant_none ?_
  refine wpAny_pure (a := Value.bool false) (wpAny_truthy_bool ?_)
  rw [if_neg (by decide)]
  refine wpAny_execs_nil ?_
  show W _ _ _ _ _
  refine wpAny_execs_cons ?_
  refine wpAny_If (isTrue_or (wpAny_isTrue_Compare1 ?_))
  refine nmL (by assumption) (by walk_at "m_take") (by walk_at "m_mem") ?_
  refine Mine.list_ (spliced_cons ?_)
  refine nmL (by assumption) (by walk_at "m_take") (by walk_at "m_mem") ?_
  refine spliced_nil ?_
  refine ⟨g, z, _, H, by simp; omega, fun oL s1 H => ?_⟩
  obtain ⟨n1, e1⟩ := qR_at H (show Take (lR bA ([p].map fun p => .ref p.1)) _ _ from (by walk_at "m_take"))
  obtain ⟨vs2, n2, hi2, e2⟩ := zs_at H (show Take (zsR l) _ _ from (by walk_at "m_take")) hpm
  obtain ⟨n3, e3⟩ := qR_at H (show Take (lR oL [.ref oA]) _ _ from Take.head)
  obtain ⟨vs4, n4, hi4, e4⟩ := z_at H (show Take (zR oA (lrTold vts S).1) _ _ from (by walk_at "m_take"))
  refine ne_one (k := 30) (hA.le (by omega)) e1 e2 hi2 e3 e4 hi4 (wpAny_truthy_bool ?_)
  rw [if_neg (by rw [hpe]; simp)]
  refine isTrue_or (wpAny_isTrue_Compare1 ?_)
  refine nmL (by assumption) (by walk_at "m_take") (by walk_at "m_mem") ?_
  refine nmC (L := L) (by assumption) (by walk_at "m_take") (by walk_at "m_mem") ?_
  have H : Hs g z (zR oA (lrTold vts S).1 :: zR tA (lrTold vts S).1 :: frR L (cellsOf w 484 L) [("script", (some (.ref scA))), ("pick", (some (.int pk tp))), ("seats", (some (.int S tS))), ("k", ko), ("votes", (some (.ref vA))), ("total", (some (.int vts.sum tT))), ("whole", (some (.ref wA))), ("rests", (some (.ref rA))), ("names", (some (.ref nA))), ("problem", (some (.ref pa))), ("ways", (some (.ref wy))), ("gains", (some (.ref gA))), ("told", (some (.ref tA))), ("only", (some (.ref oA))), ("best", (some (.ref bA))), ("strays", none), ("a", none), ("b", none), ("moved", none)] :: zR gA (l.map fun p => gainL vts S p.2) :: lR wy (l.map fun p => .ref p.1) :: zsR l :: zR vA vts :: zR wA (flL vts S) :: zR rA (remL vts S) ::  zR nA (nsOf vts) :: R) s1 := H.sub (by walk_at "m_sub")
  refine z_ne (k := 30) (hA.le (by omega)) H Take.head (Take.tail Take.head) (wpAny_truthy_bool ?_)
  rw [if_neg (by simp)]
  refine isTrue_or_nil ?_
  rw [if_neg (by decide)]
  refine wpAny_execs_nil ?_
  show W _ _ _ _ _
  exact cont _ (by kernel_rfl) s1 (show Hs g z (frR L (cellsOf w 484 L) [("script", (some (.ref scA))), ("pick", (some (.int pk tp))), ("seats", (some (.int S tS))), ("k", ko), ("votes", (some (.ref vA))), ("total", (some (.int vts.sum tT))), ("whole", (some (.ref wA))), ("rests", (some (.ref rA))), ("names", (some (.ref nA))), ("problem", (some (.ref pa))), ("ways", (some (.ref wy))), ("gains", (some (.ref gA))), ("told", (some (.ref tA))), ("only", (some (.ref oA))), ("best", (some (.ref bA))), ("strays", none), ("a", none), ("b", none), ("moved", none)] :: zR gA (l.map fun p => gainL vts S p.2) :: zR tA (lrTold vts S).1 :: lR wy (l.map fun p => .ref p.1) :: zsR l :: zR vA vts :: zR wA (flL vts S) :: zR rA (remL vts S) ::  zR nA (nsOf vts) :: R) s1 from H.sub (by walk_at "m_sub"))
end
end
section
def strL (vts : List Int) (S : Int) (x : List Int) : List Int := (List.range vts.length).map fun i => absI (x.getD i 0 * vts.sum - vts.getD i 0 * S)
def movL (vts x : List Int) (a b : Int) : List Int := (List.range vts.length).map fun i => x.getD i 0 - (if (i : Int) = a then 1 else 0) + (if (i : Int) = b then 1 else 0)
theorem str_sum {vts : List Int} {S : Int} {x : List Int} : (strL vts S x).sum = strayL vts S x := rfl
theorem str_len {vts : List Int} {S : Int} {x : List Int} : (strL vts S x).length = vts.length := by unfold strL; simp
theorem mov_len {vts x : List Int} {a b : Int} : (movL vts x a b).length = vts.length := by unfold movL; simp
theorem str_at {vts : List Int} {S : Int} {x : List Int} {i : Nat} (hi : i < vts.length) : (strL vts S x)[i]? = some (absI (x.getD i 0 * vts.sum - vts.getD i 0 * S)) := by unfold strL; rw [List.getElem?_map, List.getElem?_range hi]; rfl
theorem mov_at {vts x : List Int} {a b : Int} {i : Nat} (hi : i < vts.length) : (movL vts x a b)[i]? = some (x.getD i 0 - (if (i : Int) = a then 1 else 0) + (if (i : Int) = b then 1 else 0)) := by unfold movL; rw [List.getElem?_map, List.getElem?_range hi]; rfl
theorem at_get {l : List Int} {i : Nat} (hi : i < l.length) : l[((i : Int)).toNat]? = some (l.getD i 0) := by rw [Int.toNat_natCast, List.getD_eq_getElem?_getD, List.getElem?_eq_getElem hi]; rfl
theorem str_small {vts : List Int} {S : Int} {x : List Int} (hV : Votes vts S) (hx : ∀ j, j < vts.length → -1000 ≤ x.getD j 0 ∧ x.getD j 0 ≤ 1000) : Small (strL vts S x) := by
  obtain ⟨hT1, hT2, _⟩ := hV.tot
  have h4 := hV.l4
  refine ⟨by rw [str_len]; omega, fun k hk => ?_⟩
  obtain ⟨i, hi, rfl⟩ := List.mem_map.mp hk
  have hi := List.mem_range.mp hi
  obtain ⟨hx1, hx2⟩ := hx i hi
  obtain ⟨_, _, _, _, hd1, hd2⟩ := hV.div (v_mem hi)
  have h1 := Int.mul_le_mul_of_nonneg_right hx1 (show 0 ≤ vts.sum by omega)
  have h2 := Int.mul_le_mul_of_nonneg_right hx2 (show 0 ≤ vts.sum by omega)
  refine ⟨absI_nonneg _, ?_⟩
  unfold absI
  generalize x.getD i 0 * vts.sum = p at *
  generalize vts.getD i 0 * S = q at *
  split <;> omega
theorem way_bnd {vts : List Int} {S : Int} {x : List Int} (hV : Votes vts S) (hx : IsWay vts S x) : ∀ j, j < vts.length → -1000 ≤ x.getD j 0 ∧ x.getD j 0 ≤ 1000 := fun j hj => by
  have h1 := hx.up j hj
  have h2 := hV.div (v_mem hj)
  have h3 := hV.s1
  rw [fl_at hj] at h1
  omega
theorem mov_bnd {vts : List Int} {S : Int} {x : List Int} {a b : Int} (hV : Votes vts S) (hx : IsWay vts S x) : ∀ j, j < vts.length → -1000 ≤ (movL vts x a b).getD j 0 ∧ (movL vts x a b).getD j 0 ≤ 1000 := fun j hj => by
  have h1 := hx.up j hj
  have h2 := hV.div (v_mem hj)
  have h3 := hV.s1
  rw [fl_at hj] at h1
  unfold movL
  rw [getD_map_range hj]
  split <;> split <;> omega
section
variable {w : World} {A : Around} {g : Heap} {z s s' : Shared} {M M' R : List Res} {env : Env}
theorem ifx_ {l r : Expr} {k1 k2 : Nat} {p1 p2 p3 p4 : Pos} {Q : Value → Shared → Prop}
    (h : W w A (eval l env) (fun x s₁ => W w A (eval r env) (fun y s₂ => ∃ g z M a t b u, x = .int a t ∧ y = .int b u ∧ Hs g z M s₂ ∧ ∀ t' s', Hs g z M s' → Q (.int (if a = b then 1 else 0) t') s') s₁) s)
    (hm : behindInMarks .Eq r = false := by with_unfolding_all rfl) : W w A (eval (.IfExp (.Compare l [.Eq] [r] p1) (.Constant (.int 1) k1 p2) (.Constant (.int 0) k2 p3) p4) env) Q s := by
  refine wpAny_IfExp (wpAny_isTrue_Compare1 (wpAny_mono h (fun x s₁ h₁ => wpAny_mono h₁ (fun y s₂ h₂ => ?_) fun _ _ f => f) fun _ _ f => f) hm)
  obtain ⟨g, z, M, a, t, b, u, rfl, rfl, H, q⟩ := h₂
  refine PySem.P.eq_int (wpAny_truthy_bool ?_)
  by_cases e : a = b
  · rw [if_pos (by simp [e])]
    rw [if_pos e] at q
    exact con_ H q
  · rw [if_neg (by simp [e])]
    rw [if_neg e] at q
    exact con_ H q
set_option maxHeartbeats 16000000 in
/-- the law's end without a tie -/
theorem law_h {L scA vA wA rA nA pa wy gA tA bA oA : Addr} {ko : Option Value} {l : List (Addr × List Int)} {vts : List Int} {S pk : Int} {tp tS tT : Tok} {Q : Flow → Shared → Prop} (hV : Votes vts S) (hW : WaysOk vts S (l.map (·.2))) (ht : (lrTold vts S).2 = false) (hA : Ok 40 A) (B : Base w g) (H : Hs g z (frR L (cellsOf w 484 L) [("script", (some (.ref scA))), ("pick", (some (.int pk tp))), ("seats", (some (.int S tS))), ("k", ko), ("votes", (some (.ref vA))), ("total", (some (.int vts.sum tT))), ("whole", (some (.ref wA))), ("rests", (some (.ref rA))), ("names", (some (.ref nA))), ("problem", (some (.ref pa))), ("ways", (some (.ref wy))), ("gains", (some (.ref gA))), ("told", (some (.ref tA))), ("only", (some (.ref oA))), ("best", (some (.ref bA))), ("strays", none), ("a", none), ("b", none), ("moved", none)] :: zR gA (l.map fun p => gainL vts S p.2) :: zR tA (lrTold vts S).1 :: lR wy (l.map fun p => .ref p.1) :: zsR l :: zR vA vts :: zR wA (flL vts S) :: zR rA (remL vts S) :: zR nA (nsOf vts) :: R) s)
    (q : ∀ M s', Hs g z M s' → Q (.ret (.bool true)) s') :
    W w A (execs ((bodyOf w 484).drop 17) (callEnvC (fdOf w 484) L 484)) Q s := by
  have hsl : sizeLine = 2 ^ 24 := rfl
  have hl2 := hV.l2
  have hl4 := hV.l4
  have hnl : (nsOf vts).length = vts.length := ns_len
  obtain ⟨hT1, hT2, hT3⟩ := hV.tot
  have hs1 := hV.s1
  have htw := told_way hV
  have htl := htw.len
  have hwl := hW.len
  rw [List.length_map] at hwl
  with_unfolding_all refine wpAny_execs_cons ?_
  refine wpAny_Assign_Name ?_ (by kernel_rfl)
  refine Call_Name1 ?_
  refine nmB (v := .builtin "sum") B H ?_
  refine cw1 ?_
  refine comp_ ["k"] ?_
  refine nmC (L := L) (by assumption) (by walk_at "m_take") (by walk_at "m_mem") ?_
  refine z_iter H (show Take (zR nA (nsOf vts)) _ _ from (by walk_at "m_take")) fun I9 s10 H => ?_
  refine ⟨g, z, (nsOf vts).length, _, _, _, fun c ys M => IntsAre ys ((strL vts S ((lrTold vts S).1)).take c) ∧ M = frR L (cellsOf w 484 L) [("script", (some (.ref scA))), ("pick", (some (.int pk tp))), ("seats", (some (.int S tS))), ("k", ko), ("votes", (some (.ref vA))), ("total", (some (.int vts.sum tT))), ("whole", (some (.ref wA))), ("rests", (some (.ref rA))), ("names", (some (.ref nA))), ("problem", (some (.ref pa))), ("ways", (some (.ref wy))), ("gains", (some (.ref gA))), ("told", (some (.ref tA))), ("only", (some (.ref oA))), ("best", (some (.ref bA))), ("strays", none), ("a", none), ("b", none), ("moved", none)] :: zR gA (l.map fun p => gainL vts S p.2) :: zR tA (lrTold vts S).1 :: lR wy (l.map fun p => .ref p.1) :: zsR l :: zR vA vts :: zR wA (flL vts S) :: zR rA (remL vts S) :: zR nA (nsOf vts) :: R, _, iter_z hA.hd I9 nA (nsOf vts),
    ⟨.nil, rfl⟩, H.sub (by walk_at "m_sub"), by omega, ?_, ?_, ?_, ?_⟩
  · rintro c ys M s ⟨_, rfl⟩ H; exact has_z (l := nA) H (by walk_at "m_take")
  · rintro c ys M ⟨h, rfl⟩; rw [nm_len h, List.length_take]; omega
  · rintro C9 D9 l9 c ys M v s hl9 hc ⟨hys, rfl⟩ ⟨kk, tc, hk, rfl⟩ H
    obtain ⟨o9, rfl⟩ := one_name hl9
    rw [hnl] at hc
    rw [ns_at hc] at hk
    cases hk
    have hxl := htl
    have hxc := at_get (l := (lrTold vts S).1) (i := c) (by omega)
    have hvc := at_get (l := vts) (i := c) hc
    have hxb := way_bnd hV htw c hc
    have hvm := v_mem hc
    have hvd := hV.v1 _ hvm
    refine wpAny_assign_Name ?_
    refine stL H (by walk_at "m_take") (by walk_at "m_upl") fun s12 H => ?_
    refine wpAny_tests_nil ?_
    rw [if_pos rfl]
    refine Call_Name1 ?_
    refine nmB (v := .builtin "abs") B H ?_
    refine cw1 ?_
    refine wpAny_BinOp ?_
    refine wpAny_BinOp ?_
    refine sub_z ?_
    refine nmC (L := L) (by assumption) (by walk_at "m_take") (by walk_at "m_mem") ?_
    refine nmL (by assumption) (by walk_at "m_take") (by walk_at "m_mem") ?_
    refine ⟨g, z, _, _, tA, c, tc, _, ((lrTold vts S).1).getD c 0, rfl, rfl, H, (show Take (zR tA ((lrTold vts S).1)) _ _ from (by walk_at "m_take")), by omega, .inl ⟨by omega, hxc⟩, fun t13 => ?_⟩
    refine nmC (L := L) (by assumption) (by walk_at "m_take") (by walk_at "m_mem") ?_
    refine mul_ H (mul_ok (by omega)) fun t14 s14 H => ?_
    refine wpAny_BinOp ?_
    refine sub_z ?_
    refine nmC (L := L) (by assumption) (by walk_at "m_take") (by walk_at "m_mem") ?_
    refine nmL (by assumption) (by walk_at "m_take") (by walk_at "m_mem") ?_
    refine ⟨g, z, _, _, vA, c, tc, _, vts.getD c 0, rfl, rfl, H, (show Take (zR vA vts) _ _ from (by walk_at "m_take")), by omega, .inl ⟨by omega, hvc⟩, fun t15 => ?_⟩
    refine nmC (L := L) (by assumption) (by walk_at "m_take") (by walk_at "m_mem") ?_
    refine mul_ H (mul_ok (by omega)) fun t16 s16 H => ?_
    refine sub_ H fun t17 s17 H => ?_
    refine call_abs_int fun t18 tk18 => ?_
    refine ⟨[("k", some (.int c tc))], _, rfl, ⟨?_, rfl⟩, H.tok tk18⟩
    rw [List.take_add_one, str_at hc]
    exact ints_snoc hys
  rintro zA ys M s ⟨hys, rfl⟩ H
  rw [List.take_of_length_le (by rw [str_len]; omega)] at hys
  have H := H.toz hys
  refine z_sum hA.hd H Take.head (str_small hV (way_bnd hV htw)) fun tst s18 H => ?_
  rw [str_sum]
  refine stL (L := L) H (show Take (frR L (cellsOf w 484 L) [("script", (some (.ref scA))), ("pick", (some (.int pk tp))), ("seats", (some (.int S tS))), ("k", ko), ("votes", (some (.ref vA))), ("total", (some (.int vts.sum tT))), ("whole", (some (.ref wA))), ("rests", (some (.ref rA))), ("names", (some (.ref nA))), ("problem", (some (.ref pa))), ("ways", (some (.ref wy))), ("gains", (some (.ref gA))), ("told", (some (.ref tA))), ("only", (some (.ref oA))), ("best", (some (.ref bA))), ("strays", none), ("a", none), ("b", none), ("moved", none)]) _ _ from (by walk_at "m_take")) (by walk_at "m_upl") fun s20 H => ?_
  show W _ _ _ _ _
  refine wpAny_execs_cons ?_
  refine for_ ?_
  refine nmC (L := L) (by assumption) (by walk_at "m_take") (by walk_at "m_mem") ?_
  refine z_iter H (show Take (zR nA (nsOf vts)) _ _ from (by walk_at "m_take")) fun I s4 H => ?_
  refine ⟨g, z, (nsOf vts).length, _, _, _, fun i M => ∃ ao bo mo, M = frR L (cellsOf w 484 L) [("script", (some (.ref scA))), ("pick", (some (.int pk tp))), ("seats", (some (.int S tS))), ("k", ko), ("votes", (some (.ref vA))), ("total", (some (.int vts.sum tT))), ("whole", (some (.ref wA))), ("rests", (some (.ref rA))), ("names", (some (.ref nA))), ("problem", (some (.ref pa))), ("ways", (some (.ref wy))), ("gains", (some (.ref gA))), ("told", (some (.ref tA))), ("only", (some (.ref oA))), ("best", (some (.ref bA))), ("strays", (some (.int (strayL vts S (lrTold vts S).1) tst))), ("a", ao), ("b", bo), ("moved", mo)] :: zR gA (l.map fun p => gainL vts S p.2) :: zR tA (lrTold vts S).1 :: lR wy (l.map fun p => .ref p.1) :: zsR l :: zR vA vts :: zR wA (flL vts S) :: zR rA (remL vts S) :: zR nA (nsOf vts) :: R, _, iter_z hA.hd I nA (nsOf vts),
    ⟨none, none, none, rfl⟩, H.sub (by walk_at "m_sub"), ?_, ?_, ?_⟩
  · rintro i M s ⟨ao, bo, mo, rfl⟩ H; exact has_z (l := nA) H (by walk_at "m_take")
  · rintro i M v s hi ⟨ao, bo, mo, rfl⟩ ⟨k, ta, hk, rfl⟩ H
    rw [hnl] at hi
    rw [ns_at hi] at hk
    cases hk
    refine wpAny_assign_Name ?_
    refine stC (L := L) H (by walk_at "m_take") (by walk_at "m_upl") fun s5 H => ?_
    with_unfolding_all refine wpAny_execs_cons ?_
    refine for_ ?_
    refine nmC (L := L) (by assumption) (by walk_at "m_take") (by walk_at "m_mem") ?_
    refine z_iter H (show Take (zR nA (nsOf vts)) _ _ from (by walk_at "m_take")) fun I2 s6 H => ?_
    refine ⟨g, z, (nsOf vts).length, _, _, _, fun j M => ∃ bo mo, M = frR L (cellsOf w 484 L) [("script", (some (.ref scA))), ("pick", (some (.int pk tp))), ("seats", (some (.int S tS))), ("k", ko), ("votes", (some (.ref vA))), ("total", (some (.int vts.sum tT))), ("whole", (some (.ref wA))), ("rests", (some (.ref rA))), ("names", (some (.ref nA))), ("problem", (some (.ref pa))), ("ways", (some (.ref wy))), ("gains", (some (.ref gA))), ("told", (some (.ref tA))), ("only", (some (.ref oA))), ("best", (some (.ref bA))), ("strays", (some (.int (strayL vts S (lrTold vts S).1) tst))), ("a", (some (.int i ta))), ("b", bo), ("moved", mo)] :: liR I nA (i + 1) :: zR gA (l.map fun p => gainL vts S p.2) :: zR tA (lrTold vts S).1 :: lR wy (l.map fun p => .ref p.1) :: zsR l :: zR vA vts :: zR wA (flL vts S) :: zR rA (remL vts S) :: zR nA (nsOf vts) :: R, _, iter_z hA.hd I2 nA (nsOf vts),
      ⟨bo, mo, rfl⟩, H.sub (by walk_at "m_sub"), ?_, ?_, ?_⟩
    · rintro j M s ⟨bo, mo, rfl⟩ H; exact has_z (l := nA) H (by walk_at "m_take")
    · rintro j M v s hj ⟨bo, mo, rfl⟩ ⟨k, tb, hk, rfl⟩ H
      rw [hnl] at hj
      rw [ns_at hj] at hk
      cases hk
      refine wpAny_assign_Name ?_
      refine stC (L := L) H (by walk_at "m_take") (by walk_at "m_upl") fun s7 H => ?_
      with_unfolding_all refine wpAny_execs_cons ?_
      refine wpAny_If (isTrue_and (wpAny_isTrue_Compare1 ?_))
      refine nmC (L := L) (by assumption) (by walk_at "m_take") (by walk_at "m_mem") ?_
      refine nmC (L := L) (by assumption) (by walk_at "m_take") (by walk_at "m_mem") ?_
      refine PySem.P.ne_int (wpAny_truthy_bool ?_)
      by_cases hij : (i : Int) = (j : Int)
      · rw [if_neg (by simp [hij]), if_neg (by decide)]
        refine wpAny_execs_nil ?_
        show W _ _ _ _ _
        refine wpAny_execs_nil ?_
        exact ⟨_, ⟨some (.int j tb), mo, rfl⟩, H.sub (by walk_at "m_sub")⟩
      rw [if_pos (by simp; omega)]
      refine isTrue_and (wpAny_isTrue_Compare1 ?_)
      refine sub_z ?_
      refine nmC (L := L) (by assumption) (by walk_at "m_take") (by walk_at "m_mem") ?_
      refine nmC (L := L) (by assumption) (by walk_at "m_take") (by walk_at "m_mem") ?_
      refine ⟨g, z, _, _, tA, i, ta, _, (lrTold vts S).1.getD i 0, rfl, rfl, H, (show Take (zR tA (lrTold vts S).1) _ _ from (by walk_at "m_take")), by omega, .inl ⟨by omega, at_get (by omega)⟩, fun t13 => ?_⟩
      refine con_ H fun t14 s14 H => ?_
      refine PySem.P.gt_int (wpAny_truthy_bool ?_)
      by_cases htp : (lrTold vts S).1.getD i 0 > 0
      case neg =>
        rw [if_neg (by simpa using htp), if_neg (by decide)]
        refine wpAny_execs_nil ?_
        show W _ _ _ _ _
        refine wpAny_execs_nil ?_
        exact ⟨_, ⟨some (.int j tb), mo, rfl⟩, H.sub (by walk_at "m_sub")⟩
      rw [if_pos (by simpa using htp)]
      refine isTrue_and_nil ?_
      rw [if_pos rfl]
      refine wpAny_execs_cons ?_
      refine wpAny_Assign_Name ?_ (by kernel_rfl)
      refine comp_ ["k"] ?_
      refine nmC (L := L) (by assumption) (by walk_at "m_take") (by walk_at "m_mem") ?_
      refine z_iter H (show Take (zR nA (nsOf vts)) _ _ from (by walk_at "m_take")) fun I9 s10 H => ?_
      refine ⟨g, z, (nsOf vts).length, _, _, _, fun c ys M => IntsAre ys ((movL vts (lrTold vts S).1 i j).take c) ∧ M = frR L (cellsOf w 484 L) [("script", (some (.ref scA))), ("pick", (some (.int pk tp))), ("seats", (some (.int S tS))), ("k", ko), ("votes", (some (.ref vA))), ("total", (some (.int vts.sum tT))), ("whole", (some (.ref wA))), ("rests", (some (.ref rA))), ("names", (some (.ref nA))), ("problem", (some (.ref pa))), ("ways", (some (.ref wy))), ("gains", (some (.ref gA))), ("told", (some (.ref tA))), ("only", (some (.ref oA))), ("best", (some (.ref bA))), ("strays", (some (.int (strayL vts S (lrTold vts S).1) tst))), ("a", (some (.int i ta))), ("b", (some (.int j tb))), ("moved", mo)] :: liR I2 nA (j + 1) :: liR I nA (i + 1) :: zR gA (l.map fun p => gainL vts S p.2) :: zR tA (lrTold vts S).1 :: lR wy (l.map fun p => .ref p.1) :: zsR l :: zR vA vts :: zR wA (flL vts S) :: zR rA (remL vts S) :: zR nA (nsOf vts) :: R, _, iter_z hA.hd I9 nA (nsOf vts),
        ⟨.nil, rfl⟩, H.sub (by walk_at "m_sub"), by omega, ?_, ?_, ?_, ?_⟩
      · rintro c ys M s ⟨_, rfl⟩ H; exact has_z (l := nA) H (by walk_at "m_take")
      · rintro c ys M ⟨h, rfl⟩; rw [nm_len h, List.length_take]; omega
      · rintro C9 D9 l9 c ys M v s hl9 hc ⟨hys, rfl⟩ ⟨kk, tc, hk, rfl⟩ H
        obtain ⟨o9, rfl⟩ := one_name hl9
        rw [hnl] at hc
        rw [ns_at hc] at hk
        cases hk
        refine wpAny_assign_Name ?_
        refine stL H (by walk_at "m_take") (by walk_at "m_upl") fun s12 H => ?_
        refine wpAny_tests_nil ?_
        rw [if_pos rfl]
        refine wpAny_BinOp ?_
        refine wpAny_BinOp ?_
        refine sub_z ?_
        refine nmC (L := L) (by assumption) (by walk_at "m_take") (by walk_at "m_mem") ?_
        refine nmL (by assumption) (by walk_at "m_take") (by walk_at "m_mem") ?_
        refine ⟨g, z, _, _, tA, c, tc, _, (lrTold vts S).1.getD c 0, rfl, rfl, H, (show Take (zR tA (lrTold vts S).1) _ _ from (by walk_at "m_take")), by omega, .inl ⟨by omega, at_get (by omega)⟩, fun t13 => ?_⟩
        refine ifx_ ?_
        refine nmL (by assumption) (by walk_at "m_take") (by walk_at "m_mem") ?_
        refine nmC (L := L) (by assumption) (by walk_at "m_take") (by walk_at "m_mem") ?_
        refine ⟨g, z, _, c, tc, i, ta, rfl, rfl, H, fun t15 s15 H => ?_⟩
        refine sub_ H fun t16 s16 H => ?_
        refine ifx_ ?_
        refine nmL (by assumption) (by walk_at "m_take") (by walk_at "m_mem") ?_
        refine nmC (L := L) (by assumption) (by walk_at "m_take") (by walk_at "m_mem") ?_
        refine ⟨g, z, _, c, tc, j, tb, rfl, rfl, H, fun t17 s17 H => ?_⟩
        refine add_ H fun t18 s18 H => ?_
        refine ⟨[("k", some (.int c tc))], _, rfl, ⟨?_, rfl⟩, H⟩
        rw [List.take_add_one, mov_at hc]
        exact ints_snoc hys
      rintro mA ys M s ⟨hys, rfl⟩ H
      rw [List.take_of_length_le (by rw [mov_len]; omega)] at hys
      have H := H.toz hys
      refine stC (L := L) H (show Take (frR L (cellsOf w 484 L) [("script", (some (.ref scA))), ("pick", (some (.int pk tp))), ("seats", (some (.int S tS))), ("k", ko), ("votes", (some (.ref vA))), ("total", (some (.int vts.sum tT))), ("whole", (some (.ref wA))), ("rests", (some (.ref rA))), ("names", (some (.ref nA))), ("problem", (some (.ref pa))), ("ways", (some (.ref wy))), ("gains", (some (.ref gA))), ("told", (some (.ref tA))), ("only", (some (.ref oA))), ("best", (some (.ref bA))), ("strays", (some (.int (strayL vts S (lrTold vts S).1) tst))), ("a", (some (.int i ta))), ("b", (some (.int j tb))), ("moved", mo)]) _ _ from (by walk_at "m_take")) (by walk_at "m_upl") fun s19 H => ?_
      show W _ _ _ _ _
      refine wpAny_execs_cons ?_
      refine wpAny_If (wpAny_isTrue_Compare1 ?_)
      refine Call_Name1 ?_
      refine nmB (v := .builtin "sum") B H ?_
      refine cw1 ?_
      refine comp_ ["k"] ?_
      refine nmC (L := L) (by assumption) (by walk_at "m_take") (by walk_at "m_mem") ?_
      refine z_iter H (show Take (zR nA (nsOf vts)) _ _ from (by walk_at "m_take")) fun I9 s10 H => ?_
      refine ⟨g, z, (nsOf vts).length, _, _, _, fun c ys M => IntsAre ys ((strL vts S (movL vts (lrTold vts S).1 i j)).take c) ∧ M = frR L (cellsOf w 484 L) [("script", (some (.ref scA))), ("pick", (some (.int pk tp))), ("seats", (some (.int S tS))), ("k", ko), ("votes", (some (.ref vA))), ("total", (some (.int vts.sum tT))), ("whole", (some (.ref wA))), ("rests", (some (.ref rA))), ("names", (some (.ref nA))), ("problem", (some (.ref pa))), ("ways", (some (.ref wy))), ("gains", (some (.ref gA))), ("told", (some (.ref tA))), ("only", (some (.ref oA))), ("best", (some (.ref bA))), ("strays", (some (.int (strayL vts S (lrTold vts S).1) tst))), ("a", (some (.int i ta))), ("b", (some (.int j tb))), ("moved", (some (.ref mA)))] :: liR I2 nA (j + 1) :: liR I nA (i + 1) :: zR mA (movL vts (lrTold vts S).1 i j) :: zR gA (l.map fun p => gainL vts S p.2) :: zR tA (lrTold vts S).1 :: lR wy (l.map fun p => .ref p.1) :: zsR l :: zR vA vts :: zR wA (flL vts S) :: zR rA (remL vts S) :: zR nA (nsOf vts) :: R, _, iter_z hA.hd I9 nA (nsOf vts),
        ⟨.nil, rfl⟩, H.sub (by walk_at "m_sub"), by omega, ?_, ?_, ?_, ?_⟩
      · rintro c ys M s ⟨_, rfl⟩ H; exact has_z (l := nA) H (by walk_at "m_take")
      · rintro c ys M ⟨h, rfl⟩; rw [nm_len h, List.length_take]; omega
      · rintro C9 D9 l9 c ys M v s hl9 hc ⟨hys, rfl⟩ ⟨kk, tc, hk, rfl⟩ H
        obtain ⟨o9, rfl⟩ := one_name hl9
        rw [hnl] at hc
        rw [ns_at hc] at hk
        cases hk
        have hxl := mov_len (vts := vts) (x := (lrTold vts S).1) (a := i) (b := j)
        have hxc := at_get (l := movL vts (lrTold vts S).1 i j) (i := c) (by omega)
        have hvc := at_get (l := vts) (i := c) hc
        have hxb := mov_bnd (a := i) (b := j) hV htw c hc
        have hvm := v_mem hc
        have hvd := hV.v1 _ hvm
        refine wpAny_assign_Name ?_
        refine stL H (by walk_at "m_take") (by walk_at "m_upl") fun s12 H => ?_
        refine wpAny_tests_nil ?_
        rw [if_pos rfl]
        refine Call_Name1 ?_
        refine nmB (v := .builtin "abs") B H ?_
        refine cw1 ?_
        refine wpAny_BinOp ?_
        refine wpAny_BinOp ?_
        refine sub_z ?_
        refine nmC (L := L) (by assumption) (by walk_at "m_take") (by walk_at "m_mem") ?_
        refine nmL (by assumption) (by walk_at "m_take") (by walk_at "m_mem") ?_
        refine ⟨g, z, _, _, mA, c, tc, _, (movL vts (lrTold vts S).1 i j).getD c 0, rfl, rfl, H, (show Take (zR mA (movL vts (lrTold vts S).1 i j)) _ _ from (by walk_at "m_take")), by omega, .inl ⟨by omega, hxc⟩, fun t13 => ?_⟩
        refine nmC (L := L) (by assumption) (by walk_at "m_take") (by walk_at "m_mem") ?_
        refine mul_ H (mul_ok (by omega)) fun t14 s14 H => ?_
        refine wpAny_BinOp ?_
        refine sub_z ?_
        refine nmC (L := L) (by assumption) (by walk_at "m_take") (by walk_at "m_mem") ?_
        refine nmL (by assumption) (by walk_at "m_take") (by walk_at "m_mem") ?_
        refine ⟨g, z, _, _, vA, c, tc, _, vts.getD c 0, rfl, rfl, H, (show Take (zR vA vts) _ _ from (by walk_at "m_take")), by omega, .inl ⟨by omega, hvc⟩, fun t15 => ?_⟩
        refine nmC (L := L) (by assumption) (by walk_at "m_take") (by walk_at "m_mem") ?_
        refine mul_ H (mul_ok (by omega)) fun t16 s16 H => ?_
        refine sub_ H fun t17 s17 H => ?_
        refine call_abs_int fun t18 tk18 => ?_
        refine ⟨[("k", some (.int c tc))], _, rfl, ⟨?_, rfl⟩, H.tok tk18⟩
        rw [List.take_add_one, str_at hc]
        exact ints_snoc hys
      rintro zA ys M s ⟨hys, rfl⟩ H
      rw [List.take_of_length_le (by rw [str_len]; omega)] at hys
      have H := H.toz hys
      refine z_sum hA.hd H Take.head (str_small hV (mov_bnd (a := i) (b := j) hV htw)) fun t18 s18 H => ?_
      rw [str_sum]
      refine nmL (by assumption) (by walk_at "m_take") (by walk_at "m_mem") ?_
      refine PySem.P.lt_int (wpAny_truthy_bool ?_)
      have hmv := stray_move hV ht hi hj (fun e => hij (by rw [e])) (m := movL vts (lrTold vts S).1 i j) (fun c hc => by
        unfold movL
        rw [getD_map_range hc]
        have e1 : ((c : Int) = (i : Int)) = (c = i) := propext (by omega)
        have e2 : ((c : Int) = (j : Int)) = (c = j) := propext (by omega)
        simp only [e1, e2])
      rw [if_neg (by simp; omega)]
      refine wpAny_execs_nil ?_
      show W _ _ _ _ _
      refine wpAny_execs_nil ?_
      show W _ _ _ _ _
      refine wpAny_execs_nil ?_
      exact ⟨_, ⟨some (.int j tb), some (.ref mA), rfl⟩, H.sub (by walk_at "m_sub")⟩
    · rintro M s ⟨bo, mo, rfl⟩ H
      refine wpAny_execs_nil ?_
      show W _ _ _ _ _
      refine wpAny_execs_nil ?_
      exact ⟨_, ⟨some (.int i ta), bo, mo, rfl⟩, H.sub (by walk_at "m_sub")⟩
  rintro M s ⟨ao, bo, mo, rfl⟩ H
  refine wpAny_execs_nil ?_
  show W _ _ _ _ _
  refine wpAny_execs_cons ?_
  refine wpAny_Return_some (wpAny_Compare1 ?_)
  refine nmL (by assumption) (by walk_at "m_take") (by walk_at "m_mem") ?_
  refine Call_Name1 ?_
  refine nmB (v := .builtin "min") B H ?_
  refine cw1 ?_
  refine comp1_ "way" ?_
  refine nmL (by assumption) (by walk_at "m_take") (by walk_at "m_mem") ?_
  refine l_iter H (show Take (lR wy (l.map fun p => .ref p.1)) _ _ from (by walk_at "m_take")) fun I s8 H => ?_
  refine ⟨g, z, (l.map fun p => Value.ref p.1).length, _, _, _, fun i ys M => IntsAre ys ((l.map fun p => strayL vts S p.2).take i) ∧ M = frR L (cellsOf w 484 L) [("script", (some (.ref scA))), ("pick", (some (.int pk tp))), ("seats", (some (.int S tS))), ("k", ko), ("votes", (some (.ref vA))), ("total", (some (.int vts.sum tT))), ("whole", (some (.ref wA))), ("rests", (some (.ref rA))), ("names", (some (.ref nA))), ("problem", (some (.ref pa))), ("ways", (some (.ref wy))), ("gains", (some (.ref gA))), ("told", (some (.ref tA))), ("only", (some (.ref oA))), ("best", (some (.ref bA))), ("strays", (some (.int (strayL vts S (lrTold vts S).1) tst))), ("a", ao), ("b", bo), ("moved", mo)] :: zR gA (l.map fun p => gainL vts S p.2) :: zR tA (lrTold vts S).1 :: lR wy (l.map fun p => .ref p.1) :: zsR l :: zR vA vts :: zR wA (flL vts S) :: zR rA (remL vts S) :: zR nA (nsOf vts) :: R, _, iter_list hA.hd I wy _,
    ⟨.nil, rfl⟩, H.sub (by walk_at "m_sub"), by rw [List.length_map]; omega, ?_, ?_, ?_, ?_⟩
  · rintro i ys M s ⟨_, rfl⟩ H; exact has_seq (a := wy) H (by walk_at "m_take")
  · rintro i ys M ⟨h, rfl⟩; rw [nm_len h, List.length_take]; omega
  · rintro C1 D l0 i ys0 M v s hl hi ⟨hys0, rfl⟩ hv H
    obtain ⟨o0, rfl⟩ := one_name hl
    rw [List.getElem?_map] at hv
    obtain ⟨r, hr, rfl⟩ := Option.map_eq_some_iff.mp hv
    have hrm := List.mem_of_getElem? hr
    have hway : IsWay vts S r.2 := (hW.ext _).mp (List.mem_map_of_mem hrm)
    refine wpAny_assign_Name ?_
    refine stC (L := C1) H (by walk_at "m_take") (by walk_at "m_upl") fun s9 H => ?_
    refine wpAny_tests_nil ?_
    rw [if_pos rfl]
    refine Call_Name1 ?_
    refine nmB (v := .builtin "sum") B H ?_
    refine cw1 ?_
    refine comp_ ["k"] ?_
    refine nmC (L := L) (by assumption) (by walk_at "m_take") (by walk_at "m_mem") ?_
    refine z_iter H (show Take (zR nA (nsOf vts)) _ _ from (by walk_at "m_take")) fun I9 s10 H => ?_
    refine ⟨g, z, (nsOf vts).length, _, _, _, fun c ys M => IntsAre ys ((strL vts S (r.2)).take c) ∧ M = frR C1 [("way", C1 + 1)] [("way", some (.ref r.1))] :: liR I wy (i + 1) :: lR D ys0 :: frR L (cellsOf w 484 L) [("script", (some (.ref scA))), ("pick", (some (.int pk tp))), ("seats", (some (.int S tS))), ("k", ko), ("votes", (some (.ref vA))), ("total", (some (.int vts.sum tT))), ("whole", (some (.ref wA))), ("rests", (some (.ref rA))), ("names", (some (.ref nA))), ("problem", (some (.ref pa))), ("ways", (some (.ref wy))), ("gains", (some (.ref gA))), ("told", (some (.ref tA))), ("only", (some (.ref oA))), ("best", (some (.ref bA))), ("strays", (some (.int (strayL vts S (lrTold vts S).1) tst))), ("a", ao), ("b", bo), ("moved", mo)] :: zR gA (l.map fun p => gainL vts S p.2) :: zR tA (lrTold vts S).1 :: lR wy (l.map fun p => .ref p.1) :: zsR l :: zR vA vts :: zR wA (flL vts S) :: zR rA (remL vts S) :: zR nA (nsOf vts) :: R, _, iter_z hA.hd I9 nA (nsOf vts),
      ⟨.nil, rfl⟩, H.sub (by walk_at "m_sub"), by omega, ?_, ?_, ?_, ?_⟩
    · rintro c ys M s ⟨_, rfl⟩ H; exact has_z (l := nA) H (by walk_at "m_take")
    · rintro c ys M ⟨h, rfl⟩; rw [nm_len h, List.length_take]; omega
    · rintro C9 D9 l9 c ys M v s hl9 hc ⟨hys, rfl⟩ ⟨kk, tc, hk, rfl⟩ H
      obtain ⟨o9, rfl⟩ := one_name hl9
      rw [hnl] at hc
      rw [ns_at hc] at hk
      cases hk
      have hxl := hway.len
      have hxc := at_get (l := r.2) (i := c) (by omega)
      have hvc := at_get (l := vts) (i := c) hc
      have hxb := way_bnd hV hway c hc
      have hvm := v_mem hc
      have hvd := hV.v1 _ hvm
      refine wpAny_assign_Name ?_
      refine stL H (by walk_at "m_take") (by walk_at "m_upl") fun s12 H => ?_
      refine wpAny_tests_nil ?_
      rw [if_pos rfl]
      refine Call_Name1 ?_
      refine nmB (v := .builtin "abs") B H ?_
      refine cw1 ?_
      refine wpAny_BinOp ?_
      refine wpAny_BinOp ?_
      refine sub_lst ?_
      refine nmC (L := C1) (by assumption) (by walk_at "m_take") (by walk_at "m_mem") ?_
      refine nmL (by assumption) (by walk_at "m_take") (by walk_at "m_mem") ?_
      obtain ⟨vs1, n1, hi1, e1⟩ := zs_at H (show Take (zsR l) _ _ from (by walk_at "m_take")) hrm
      refine ⟨r.1, c, tc, vs1, n1, rfl, rfl, e1, ?_⟩
      refine z_get hi1 e1 (by omega) (by omega) hxc fun t13 => ?_
      refine nmC (L := L) (by assumption) (by walk_at "m_take") (by walk_at "m_mem") ?_
      refine mul_ H (mul_ok (by omega)) fun t14 s14 H => ?_
      refine wpAny_BinOp ?_
      refine sub_z ?_
      refine nmC (L := L) (by assumption) (by walk_at "m_take") (by walk_at "m_mem") ?_
      refine nmL (by assumption) (by walk_at "m_take") (by walk_at "m_mem") ?_
      refine ⟨g, z, _, _, vA, c, tc, _, vts.getD c 0, rfl, rfl, H, (show Take (zR vA vts) _ _ from (by walk_at "m_take")), by omega, .inl ⟨by omega, hvc⟩, fun t15 => ?_⟩
      refine nmC (L := L) (by assumption) (by walk_at "m_take") (by walk_at "m_mem") ?_
      refine mul_ H (mul_ok (by omega)) fun t16 s16 H => ?_
      refine sub_ H fun t17 s17 H => ?_
      refine call_abs_int fun t18 tk18 => ?_
      refine ⟨[("k", some (.int c tc))], _, rfl, ⟨?_, rfl⟩, H.tok tk18⟩
      rw [List.take_add_one, str_at hc]
      exact ints_snoc hys
    rintro zA ys M s ⟨hys, rfl⟩ H
    rw [List.take_of_length_le (by rw [str_len]; omega)] at hys
    have H := H.toz hys
    refine z_sum hA.hd H Take.head (str_small hV (way_bnd hV hway)) fun t18 s18 H => ?_
    rw [str_sum]
    have hfi : (l.map fun p => strayL vts S p.2)[i]? = some (strayL vts S r.2) := by rw [List.getElem?_map, hr]; rfl
    refine ⟨[("way", some (.ref r.1))], _, rfl, ⟨?_, rfl⟩, H.sub (by walk_at "m_sub")⟩
    rw [List.take_add_one, hfi]
    exact ints_snoc hys0
  rintro zA ys M s ⟨hys, rfl⟩ H
  rw [List.take_of_length_le (by simp)] at hys
  have H := H.toz hys
  obtain ⟨p0, hp0, hpe⟩ := List.mem_map.mp ((hW.ext _).mpr htw)
  refine z_min hA.hd H Take.head (by rw [List.length_map]; exact List.length_pos_of_mem hp0) fun x t9 s9 hx hm H => ?_
  refine PySem.P.eq_int ?_
  have hx1 := hm _ (List.mem_map.mpr ⟨p0, hp0, rfl⟩)
  rw [hpe] at hx1
  obtain ⟨p1, hp1, hxe⟩ := List.mem_map.mp hx
  have hx2 := stray_min hV ht ((hW.ext _).mp (List.mem_map_of_mem hp1))
  rw [show (strayL vts S (lrTold vts S).1 == x) = true by rw [beq_iff_eq]; omega]
  exact q _ _ H
end
end
section
section
variable {w : World} {A : Around} {g : Heap} {z s s' : Shared} {M M' R : List Res} {env : Env}
/-- the law answers True -/
theorem law_ans {p : Program} {loose : List Str} {mg mb : Str → Option Value} {scA : Addr} {scr : List Int} {Q : Value → Shared → Prop} (hS : ScriptAt g scA scr) (hlen : scr.length ≤ 1000) (hA : Ok 345 A) (hfr : A.frames = some []) (B : Base w g) (T : TopRead p loose mg mb g) (H : Hs g z [] s)
    (q : ∀ z' M s', z'.os = z.os → (AllBare z.gens → AllBare z'.gens) → Hs g z' M s' → Q (.bool true) s') : W w A (call (.ref 484) [.ref scA]) Q s := by
  have hb : BindsTo s (fdOf w 484) ⟨[.ref scA], []⟩ [("script", .ref scA)] := BindsTo.of_eq (by kernel_rfl)
  refine call_fn (k := 344) (l := [("script", some (.ref scA)), ("pick", none), ("seats", none), ("k", none), ("votes", none), ("total", none), ("whole", none), ("rests", none), ("names", none), ("problem", none), ("ways", none), ("gains", none), ("told", none), ("only", none), ("best", none), ("strays", none), ("a", none), ("b", none), ("moved", none)]) hA B H hb ?_
  intro L s1 H hA'
  have hV := votes_of scr
  have hf' : (A.deeper (callEnvC (fdOf w 484) L 484)).frames = some [callEnvC (fdOf w 484) L 484] := Around.frames_deeper hfr
  refine law_a hS hlen (hA'.le (by omega)) B H fun last hlast tp tS tT vA wA rA nA s2 H => ?_
  subst hlast
  refine law_b hV (hA'.le (by omega)) B H fun last hlast z' pa wy ko l s3 hz hgb hW H => ?_
  subst hlast
  refine law_c hV hW (hA'.le (by omega)) B H fun last hlast gA tA s4 H => ?_
  subst hlast
  refine law_d hV (hA'.le (by omega)) B T hf' H fun last hlast ov R' s5 hc H => ?_
  subst hlast
  have hwl := hW.len
  rw [List.length_map] at hwl
  obtain ⟨p0, hp0, _⟩ := List.mem_map.mp ((hW.ext _).mpr (told_way hV))
  refine law_e (List.length_pos_of_mem hp0) hwl (hA'.le (by omega)) B H fun last hlast bA s6 H => ?_
  subst hlast
  rcases hc with ⟨ht, rfl, rfl⟩ | ⟨ht, oA, rfl, rfl⟩
  · exact law_f hV hW ht B H fun M s7 H => q z' M s7 hz hgb H
  · refine law_g hV hW ht (hA'.le (by omega)) H fun last hlast s7 H => ?_
    subst hlast
    exact law_h hV hW ht (hA'.le (by omega)) B H fun M s8 H => q z' M s8 hz hgb H
end
end
end Mine
set_option maxHeartbeats 8000000
theorem PySem.Challenge.cw_vc0034_01_holds : PySem.Challenge.rw_vc0034_01.Holds := by
  refine Mine.hd ?_
  intro w s₀ s₁ mg mb G Y fa o pm cd doc dV kV ho hd hcd hD hmg hg args vals as hpre hlay hrd hwl hlo
  have KX := kIn_of Y
  have T := G.T
  have e484 : mg "law" = some (.ref 484) := mg_of KX T.g (by kernel_rfl)
  have efa : fa = 484 := by
    have h2 : mg "law" = some (.ref fa) := hmg
    rw [e484] at h2
    injection h2 with h2
    injection h2 with h2
    exact h2.symm
  subst efa
  clear G Y ho hd hcd hD hmg
  wrow_args hpre hlay hrd hwl hlo
  rename_i scr _ _ _ _ _ _ _ scA vs _ hL _ _ _ hI _ hlen _
  have B : Mine.Base w s₁.heap := ⟨KX, T.nolimit, ⟨mg, T.g⟩, ⟨mb, T.b, T.builtins⟩⟩
  have H : Mine.Hs s₁.heap s₁ [] s₁ := ⟨fun _ _ e => e, rfl, rfl, rfl, fun r hr => (by cases hr), fun r hr => (by cases hr), .nil⟩
  refine Mine.W.any (Mine.law_ans (scr := scr) ⟨vs, hI, hL⟩ (by omega) ⟨rfl, by decide +kernel, by decide +kernel⟩ rfl B (topRead_of T) H fun z' M s' hz hgb H => ?_)
  refine ⟨.inl ⟨.bool true, .bool true, [], rfl, fun cls => ?_, .bool true, ?_, fun _ => ⟨List.nodup_nil, fun a ha => by cases ha⟩⟩, .of_keep H.base, H.os.trans hz, ?_⟩
  · rfl
  · wrow_post
  · rw [H.gens]; exact hgb (.of_eq hg)
