import PyProof.Rows.All
import Wide.All
import OpenK.AllK
import Wide.FinOn
import PySem.Challenge.RW_gf0002_01

open PySem PySem.W PyProof.Rows PySem.Calls PySem.Spec
set_option Elab.async false
set_option maxRecDepth 100000
set_option linter.all false
set_option maxHeartbeats 2000000

namespace Mine

/-- every object that stood still stands, as it was -/
def Up (h h' : Heap) : Prop := ∀ b o, h.get? b = some o → h'.get? b = some o
theorem Up.refl (h : Heap) : Up h h := fun _ _ e => e
theorem Up.trans {h₁ h₂ h₃ : Heap} (x : Up h₁ h₂) (y : Up h₂ h₃) : Up h₁ h₃ := fun b o e => y b o (x b o e)
theorem Up.push (h : Heap) (o : Obj) : Up h (h.push o) := fun _ _ e => Heap.get?_push_of_some o e

/-- every object off `bad` still stands, as it was -/
def Keep (bad : List Addr) (h h' : Heap) : Prop := ∀ b o, b ∉ bad → h.get? b = some o → h'.get? b = some o
theorem Keep.refl (bad : List Addr) (h : Heap) : Keep bad h h := fun _ _ _ e => e
theorem Keep.trans {bad : List Addr} {h₁ h₂ h₃ : Heap} (x : Keep bad h₁ h₂) (y : Keep bad h₂ h₃) : Keep bad h₁ h₃ := fun b o n e => y b o n (x b o n e)
theorem Up.keep {h h' : Heap} (x : Up h h') (bad : List Addr) : Keep bad h h' := fun b o _ e => x b o e
theorem Keep.of_same {a : Addr} {bad : List Addr} {h h' : Heap} (ha : a ∈ bad) (x : Heap.SameBut a h h') : Keep bad h h' := fun b _ hb e => (x.2 b fun q => hb (q ▸ ha)).trans e
theorem Keep.of_ext {a : Addr} {bad : List Addr} {h h' : Heap} (ha : a ∈ bad) (x : Heap.ExtBut a h h') : Keep bad h h' := fun b o hb e => x b o (fun q => hb (q ▸ ha)) e
theorem Keep.more {bad bad' : List Addr} {h h' : Heap} (x : Keep bad h h') (hs : ∀ b ∈ bad, b ∈ bad') : Keep bad' h h' := fun b o hb e => x b o (fun q => hb (hs b q)) e
/-- addresses that did not stand may be struck from `bad` -/
theorem Keep.fresh {bad own : List Addr} {h h' : Heap} (x : Keep (own ++ bad) h h') (hf : ∀ b ∈ own, h.get? b = none) : Keep bad h h' := fun b o hb e => x b o (fun q => by
  rcases List.mem_append.mp q with q | q
  · rw [hf b q] at e; cases e
  · exact hb q) e
theorem Keep.up {own : List Addr} {h h' : Heap} (x : Keep own h h') (hf : ∀ b ∈ own, h.get? b = none) : Up h h' := fun b o e => x b o (fun q => by rw [hf b q] at e; cases e) e

/-- the heap without the addresses that may turn -/
abbrev cut (h : Heap) (bad : List Addr) : Heap := hideAll h bad
theorem cut_get {h : Heap} {bad : List Addr} {b : Addr} {o : Obj} (e : (cut h bad).get? b = some o) : h.get? b = some o ∧ b ∉ bad :=
  ⟨of_hideAll bad e, fun q => by rw [hideAll_none bad q] at e; cases e⟩
theorem cut_up (h : Heap) (bad : List Addr) : Up (cut h bad) h := fun _ _ e => (cut_get e).1
theorem Keep.cut {bad : List Addr} {h h' : Heap} (x : Keep bad h h') : Up (cut h bad) (cut h' bad) := fun b o e => by
  obtain ⟨e1, e2⟩ := cut_get e
  exact hideAll_get bad (x b o e2 e1) e2
theorem cut_less {h : Heap} {bad bad' : List Addr} (hs : ∀ b ∈ bad, b ∈ bad') : Up (cut h bad') (cut h bad) := fun b o e => by
  obtain ⟨e1, e2⟩ := cut_get e
  exact hideAll_get bad e1 fun q => e2 (hs b q)
/-- addresses that do not stand may be added -/
theorem cut_add {h : Heap} {own bad : List Addr} (hf : ∀ b ∈ own, h.get? b = none) : Up (cut h bad) (cut h (own ++ bad)) := fun b o e => by
  obtain ⟨e1, e2⟩ := cut_get e
  refine hideAll_get _ e1 fun q => ?_
  rcases List.mem_append.mp q with q | q
  · rw [hf b q] at e1; cases e1
  · exact e2 q

-- the value bears the datum: lists and tuples are exact objects
mutual
inductive Rp (h : Heap) : Value → PyData → Prop
  | none : Rp h .none .none
  | bool (b : Bool) : Rp h (.bool b) (.bool b)
  | int (i : Int) (t : Tok) : Rp h (.int i t) (.int i)
  | str (x : Str) (t : Tok) : Rp h (.str x t) (.str x)
  | list {a : Addr} {vs : List Value} {n : Nat} {ds : List PyData} : h.get? a = some { cls := .type "list", data := .seq vs.toArray n } → Rps h vs ds → Rp h (.ref a) (.list ds)
  | tuple {a : Addr} {vs : List Value} {n : Nat} {ds : List PyData} : h.get? a = some { cls := .type "tuple", data := .seq vs.toArray n } → Rps h vs ds → Rp h (.ref a) (.tuple ds)
  | dict {a : Addr} {es : Array DictEntry} {n : Nat} {kvs : List (PyData × PyData)} : sysModules < a → (∀ p ∈ kvs, p.1 ≠ .none) → h.get? a = some { cls := .type "dict", data := .dict es n } → Rps h (es.toList.map (·.key)) (kvs.map (·.1)) → Rps h (es.toList.map (·.val)) (kvs.map (·.2)) → Rp h (.ref a) (.dict kvs)
  -- the address itself, of whatever stands there
  | raw (a : Addr) : Rp h (.ref a) (.dict [(.none, .int (a : Int))])
inductive Rps (h : Heap) : List Value → List PyData → Prop
  | nil : Rps h [] []
  | cons {v : Value} {vs : List Value} {d : PyData} {ds : List PyData} : Rp h v d → Rps h vs ds → Rps h (v :: vs) (d :: ds)
end

mutual
theorem Rp.up {h h' : Heap} (u : Up h h') : ∀ {v : Value} {d : PyData}, Rp h v d → Rp h' v d
  | _, _, .none => .none
  | _, _, .bool b => .bool b
  | _, _, .int i t => .int i t
  | _, _, .str x t => .str x t
  | _, _, .list e r => .list (u _ _ e) (Rps.up u r)
  | _, _, .tuple e r => .tuple (u _ _ e) (Rps.up u r)
  | _, _, .dict l k e r q => .dict l k (u _ _ e) (Rps.up u r) (Rps.up u q)
  | _, _, .raw a => .raw a
theorem Rps.up {h h' : Heap} (u : Up h h') : ∀ {vs : List Value} {ds : List PyData}, Rps h vs ds → Rps h' vs ds
  | _, _, .nil => .nil
  | _, _, .cons a r => .cons (Rp.up u a) (Rps.up u r)
end
mutual
theorem Rp.reads {h : Heap} : ∀ {v : Value} {d : PyData}, Rp h v d → d.canLay0 = true → ∃ as, Reads h v d as
  | _, _, .none, _ => ⟨_, .none⟩
  | _, _, .bool b, _ => ⟨_, .bool b⟩
  | _, _, .int i t, _ => ⟨_, .int i t⟩
  | _, _, .str x t, _ => ⟨_, .str x t⟩
  | _, _, .list e r, c => let ⟨_, q⟩ := Rps.reads r (by simpa [PyData.canLay0] using c); ⟨_, reads_list_at e rfl rfl (by simpa using q)⟩
  | _, _, .tuple e r, c => let ⟨_, q⟩ := Rps.reads r (by simpa [PyData.canLay0] using c); ⟨_, reads_tuple_at e rfl rfl (by simpa using q)⟩
  | _, _, .dict _ _ _ _ _, c => by simp [PyData.canLay0] at c
  | _, _, .raw _, c => by simp [PyData.canLay0] at c
theorem Rps.reads {h : Heap} : ∀ {vs : List Value} {ds : List PyData}, Rps h vs ds → PyData.canLayAll0 ds = true → ∃ as, ReadsAll h vs ds as
  | _, _, .nil, _ => ⟨_, .nil⟩
  | _, _, .cons a r, c => by
    simp only [PyData.canLayAll0, Bool.and_eq_true] at c
    obtain ⟨_, p⟩ := Rp.reads a c.1
    obtain ⟨_, q⟩ := Rps.reads r c.2
    exact ⟨_, .cons p q⟩
end
/-- the datum of an address -/
def rawD (a : Addr) : PyData := .dict [(.none, .int (a : Int))]
theorem rp_raw {h : Heap} {v : Value} {a : Addr} (r : Rp h v (rawD a)) : v = .ref a := by
  unfold rawD at r
  generalize hk : [(PyData.none, PyData.int (a : Int))] = kvs at r
  cases r with
  | dict _ k _ _ _ => subst hk; exact absurd rfl (k _ List.mem_cons_self)
  | raw b =>
    simp only [List.cons.injEq, Prod.mk.injEq, PyData.int.injEq, and_true, true_and] at hk
    rw [Int.ofNat.inj hk]
theorem Rps.length {h : Heap} {vs : List Value} {ds : List PyData} (r : Rps h vs ds) : vs.length = ds.length := by
  induction vs generalizing ds with
  | nil => cases r; rfl
  | cons v vs ih => cases r with | cons _ r => simp [ih r]
theorem Rps.append {h : Heap} {vs ws : List Value} {ds es : List PyData} (r : Rps h vs ds) (q : Rps h ws es) : Rps h (vs ++ ws) (ds ++ es) := by
  induction vs generalizing ds with
  | nil => cases r; exact q
  | cons v vs ih => cases r with | cons a r => exact .cons a (ih r)
theorem Rps.one {h : Heap} {v : Value} {d : PyData} (r : Rp h v d) : Rps h [v] [d] := .cons r .nil
theorem Rps.get {h : Heap} {vs : List Value} {ds : List PyData} (r : Rps h vs ds) {k : Nat} {d : PyData} (e : ds[k]? = some d) : ∃ v, vs[k]? = some v ∧ Rp h v d := by
  induction vs generalizing ds k with
  | nil => cases r; simp at e
  | cons v vs ih =>
    cases r with
    | cons a r =>
      cases k with
      | zero => simp at e; subst e; exact ⟨v, rfl, a⟩
      | succ k => exact ih r (by simpa using e)
theorem Rps.take {h : Heap} {vs : List Value} {ds : List PyData} (r : Rps h vs ds) (k : Nat) : Rps h (vs.take k) (ds.take k) := by
  induction vs generalizing ds k with
  | nil => cases r; simpa using Rps.nil
  | cons v vs ih =>
    cases r with
    | cons a r =>
      cases k with
      | zero => exact .nil
      | succ k => exact .cons a (ih r k)
theorem Rps.drop {h : Heap} {vs : List Value} {ds : List PyData} (r : Rps h vs ds) (k : Nat) : Rps h (vs.drop k) (ds.drop k) := by
  induction vs generalizing ds k with
  | nil => cases r; simpa using Rps.nil
  | cons v vs ih =>
    cases r with
    | cons a r =>
      cases k with
      | zero => exact .cons a r
      | succ k => exact ih r k

/-- names known: what they hold -/
abbrev Cx := List (Str × PyData)

/-- the addresses of the frame itself -/
def Own (env : Env) (b : Addr) : Prop := b = env.locals ∨ ∃ y, env.cells.lookup y = some b

/-- the frame's names hold what the context says; `bad` are the addresses that may turn, the frame's own among them -/
structure FS (env : Env) (bad : List Addr) (G : Cx) (h : Heap) : Prop where
  stands : ∀ b ∈ bad, ∃ o, h.get? b = some o
  lbad : env.locals ∈ bad
  cbad : ∀ y c, env.cells.lookup y = some c → c ∈ bad ∧ ∃ v, h.IsCell c v
  inj : ∀ x y c, env.cells.lookup x = some c → env.cells.lookup y = some c → x = y
  loc : ∃ m, h.Ns env.locals m ∧ ∀ x d, G.lookup x = some d → env.kindOf x = some .local → ∃ v, m x = some v ∧ Rp (cut h bad) v d
  cel : ∀ x d, G.lookup x = some d → (env.kindOf x = some .cell ∨ env.kindOf x = some .free) → ∃ c v, env.cells.lookup x = some c ∧ h.IsCell c (some v) ∧ Rp (cut h bad) v d

theorem FS.move {env : Env} {bad bad' : List Addr} {G : Cx} {h h' : Heap} (F : FS env bad G h) (u : Up (cut h bad) (cut h' bad')) (kf : ∀ b o, Own env b → h.get? b = some o → h'.get? b = some o)
    (st : ∀ b ∈ bad', ∃ o, h'.get? b = some o) (lb : env.locals ∈ bad') (cb : ∀ y c, env.cells.lookup y = some c → c ∈ bad') : FS env bad' G h' where
  stands := st
  lbad := lb
  cbad := fun y c e => ⟨cb y c e, let ⟨_, v, o, h1, h2⟩ := F.cbad y c e; ⟨v, o, kf c o (.inr ⟨y, e⟩) h1, h2⟩⟩
  inj := F.inj
  loc := let ⟨m, ⟨o, es, ep, ho, r0⟩, r⟩ := F.loc; ⟨m, ⟨o, es, ep, kf _ _ (.inl rfl) ho, r0⟩, fun x d e k => let ⟨v, e1, e2⟩ := r x d e k; ⟨v, e1, e2.up u⟩⟩
  cel := fun x d e k => let ⟨c, v, e1, ⟨o, h1, h2⟩, e3⟩ := F.cel x d e k; ⟨c, v, e1, ⟨o, kf c o (.inr ⟨x, e1⟩) h1, h2⟩, e3.up u⟩
theorem FS.up {env : Env} {bad : List Addr} {G : Cx} {h h' : Heap} (F : FS env bad G h) (u : Up h h') : FS env bad G h' :=
  F.move (u.keep bad).cut (fun b o _ e => u b o e) (fun b hb => let ⟨o, e⟩ := F.stands b hb; ⟨o, u b o e⟩) F.lbad fun y c e => (F.cbad y c e).1
theorem FS.lt {env : Env} {bad : List Addr} {G : Cx} {h : Heap} (F : FS env bad G h) {b : Addr} (hb : b ∈ bad) : b < h.objs.size := let ⟨_, e⟩ := F.stands b hb; Heap.lt_size e
theorem FS.fresh {env : Env} {bad : List Addr} {G : Cx} {h : Heap} (F : FS env bad G h) : h.objs.size ∉ bad := fun q => Nat.lt_irrefl _ (F.lt q)
theorem FS.ownBad {env : Env} {bad : List Addr} {G : Cx} {h : Heap} (F : FS env bad G h) {b : Addr} (hb : Own env b) : b ∈ bad := by
  rcases hb with rfl | ⟨y, e⟩
  · exact F.lbad
  · exact (F.cbad y b e).1
/-- a context that says less -/
theorem FS.say {env : Env} {bad : List Addr} {G G' : Cx} {h : Heap} (F : FS env bad G h) (hs : ∀ x d, G'.lookup x = some d → G.lookup x = some d) : FS env bad G' h where
  stands := F.stands
  lbad := F.lbad
  cbad := F.cbad
  inj := F.inj
  loc := let ⟨m, n, r⟩ := F.loc; ⟨m, n, fun x d e k => r x d (hs x d e) k⟩
  cel := fun x d e k => F.cel x d (hs x d e) k

theorem cx_cons {x y : Str} {d : PyData} {G : Cx} : ((x, d) :: G).lookup y = if y = x then some d else G.lookup y := by
  rw [List.lookup_cons]
  by_cases h : y = x
  · subst h; simp
  · rw [if_neg h, beq_eq_false_iff_ne.mpr h]

theorem FS.store {M : Model} {A : Around} {E : Value → Shared → Prop} {env : Env} {bad : List Addr} {G : Cx} {s : Shared} {x : Str} {v : Value} {d : PyData} {Q : Unit → Shared → Prop} (F : FS env bad G s.heap) (hk : env.scope.kind = .function)
    (hx : env.kindOf x = some .local ∨ (env.kindOf x = some .cell ∧ (env.cells.lookup x).isSome = true)) (r : Rp (cut s.heap bad) v d)
    (hQ : ∀ h' tk a, FS env bad ((x, d) :: G) h' → Heap.SameBut a s.heap h' → (a = env.locals ∨ (env.kindOf x = some .cell ∧ env.cells.lookup x = some a)) → Q () { s with heap := h', toks := tk }) : wpAny M A (storeName env x v) Q E s := by
  obtain ⟨m, n, rl⟩ := F.loc
  have hLc : ∀ y c, env.cells.lookup y = some c → env.locals ≠ c := fun y c e q => by
    obtain ⟨_, v', o, h1, h2⟩ := F.cbad y c e
    obtain ⟨o', es, ep, h3, h4, _⟩ := n
    rw [q, h1] at h3; cases h3; rw [h2] at h4; cases h4
  rcases hx with hx | ⟨hx, hc⟩
  · refine wpAny_storeName_local hx n (fun h' hn hs => hQ h' _ env.locals ⟨fun b hb => ?_, F.lbad, fun y c e => ⟨(F.cbad y c e).1, ?_⟩, F.inj, ⟨_, hn, fun y e hy ky => ?_⟩, fun y e hy ky => ?_⟩ hs (.inl rfl)) (by rw [hk]; rfl)
    · by_cases hbL : b = env.locals
      · subst hbL; obtain ⟨o, _, _, ho, _⟩ := hn; exact ⟨o, ho⟩
      · obtain ⟨o, e⟩ := F.stands b hb; exact ⟨o, (hs.2 b hbL).trans e⟩
    · obtain ⟨_, v', q⟩ := F.cbad y c e
      exact ⟨v', q.sameBut hs (Ne.symm (hLc y c e))⟩
    · have kc := (Keep.of_same F.lbad hs).cut
      rw [cx_cons] at hy
      by_cases hxy : y = x
      · subst hxy; simp at hy; subst hy; exact ⟨v, by simp, r.up kc⟩
      · simp only [hxy, if_false] at hy ⊢
        obtain ⟨v', e1, e2⟩ := rl y e hy ky
        exact ⟨v', e1, e2.up kc⟩
    · have kc := (Keep.of_same F.lbad hs).cut
      rw [cx_cons] at hy
      by_cases hxy : y = x
      · subst hxy; rw [hx] at ky; rcases ky with ky | ky <;> cases ky
      · simp only [hxy, if_false] at hy
        obtain ⟨c, v', e1, e2, e3⟩ := F.cel y e hy ky
        exact ⟨c, v', e1, e2.sameBut hs (Ne.symm (hLc y c e1)), e3.up kc⟩
  · obtain ⟨c, hc⟩ := Option.isSome_iff_exists.mp hc
    obtain ⟨hcb, v₀, hv₀⟩ := F.cbad x c hc
    refine wpAny_storeName_cell hk hx hc hv₀ fun h' hn hs => hQ h' s.toks c ⟨fun b hb => ?_, F.lbad, fun y c' e => ⟨(F.cbad y c' e).1, ?_⟩, F.inj, ⟨m, n.sameBut hs (hLc x c hc), fun y e hy ky => ?_⟩, fun y e hy ky => ?_⟩ hs (.inr ⟨hx, hc⟩)
    · by_cases hbc : b = c
      · subst hbc; obtain ⟨o, ho, _⟩ := hn; exact ⟨o, ho⟩
      · obtain ⟨o, e⟩ := F.stands b hb; exact ⟨o, (hs.2 b hbc).trans e⟩
    · by_cases hcc : c' = c
      · subst hcc; exact ⟨_, hn⟩
      · obtain ⟨_, v', q⟩ := F.cbad y c' e
        exact ⟨v', q.sameBut hs hcc⟩
    · have kc := (Keep.of_same hcb hs).cut
      rw [cx_cons] at hy
      by_cases hxy : y = x
      · subst hxy; rw [hx] at ky; cases ky
      · simp only [hxy, if_false] at hy
        obtain ⟨v', e1, e2⟩ := rl y e hy ky
        exact ⟨v', e1, e2.up kc⟩
    · have kc := (Keep.of_same hcb hs).cut
      rw [cx_cons] at hy
      by_cases hxy : y = x
      · subst hxy; simp at hy; subst hy; exact ⟨c, v, hc, hn, r.up kc⟩
      · simp only [hxy, if_false] at hy
        obtain ⟨c', v', e1, e2, e3⟩ := F.cel y e hy ky
        exact ⟨c', v', e1, e2.sameBut hs (fun q => hxy (F.inj y x c (q ▸ e1) hc)), e3.up kc⟩

/-- the world: program, its world, the heap at the call -/
structure Wd where
  prog : Program
  w : World
  base : Heap

/-- the world's heap still stands, off the addresses that may turn -/
def Bs (W : Wd) (bad : List Addr) (h : Heap) : Prop := Up W.base (cut h bad)
theorem Bs.keep {W : Wd} {bad : List Addr} {h h' : Heap} (B : Bs W bad h) (k : Keep bad h h') : Bs W bad h' := Up.trans B k.cut
theorem Bs.up {W : Wd} {bad : List Addr} {h h' : Heap} (B : Bs W bad h) (u : Up h h') : Bs W bad h' := B.keep (u.keep bad)
theorem Bs.full {W : Wd} {bad : List Addr} {h : Heap} (B : Bs W bad h) : Up W.base h := Up.trans B (cut_up _ _)
theorem Bs.move {W : Wd} {bad bad' : List Addr} {h h' : Heap} (B : Bs W bad h) (u : Up (cut h bad) (cut h' bad')) : Bs W bad' h' := Up.trans B u

/-- from `s` the tree gives a value that bears `d`; nothing that stood is turned -/
def Gives (W : Wd) (A : Around) (t : Sem Value) (bad : List Addr) (s : Shared) (d : PyData) : Prop :=
  ∀ (Q : Value → Shared → Prop) (E : Value → Shared → Prop), (∀ v h' tk, Up s.heap h' → Rp (cut h' bad) v d → Q v { s with heap := h', toks := tk }) → wpAny (model W.prog W.w) A t Q E s

/-- the expression gives `d` wherever the names hold what `G` says -/
def Ev (W : Wd) (A : Around) (env : Env) (G : Cx) (e : Expr) (d : PyData) : Prop :=
  ∀ (bad : List Addr) (s : Shared), FS env bad G s.heap → Bs W bad s.heap → Gives W A (eval e env) bad s d

/-- the test comes out as `b` -/
def Et (W : Wd) (A : Around) (env : Env) (G : Cx) (e : Expr) (b : Bool) : Prop :=
  ∀ (bad : List Addr) (s : Shared) (Q : Bool → Shared → Prop) (E : Value → Shared → Prop), FS env bad G s.heap → Bs W bad s.heap →
    (∀ h' tk, Up s.heap h' → Q b { s with heap := h', toks := tk }) → wpAny (model W.prog W.w) A (isTrue e env (eval e env)) Q E s

section
variable {W : Wd} {A : Around} {env : Env} {G : Cx}

theorem ev_name {x : Str} {pos : Pos} {d : PyData} (hx : G.lookup x = some d) (hk : env.scope.kind = .function)
    (hn : env.kindOf x = some .local ∨ env.kindOf x = some .cell ∨ env.kindOf x = some .free) (hd : (x == ("__debug__" : Str)) = false := by decide) (hc : (x == ("__classdict__" : Str)) = false := by decide) :
    Ev W A env G (.Name x pos) d := by
  intro bad s F _ Q E hQ
  refine wpAny_Name ?_ hd
  rcases hn with hn | hn | hn
  · obtain ⟨m, n, r⟩ := F.loc
    obtain ⟨v, e1, e2⟩ := r x d hx hn
    exact wpAny_loadName_local hk hn n e1 (hQ v s.heap s.toks (Up.refl _) e2)
  · obtain ⟨c, v, e1, e2, e3⟩ := F.cel x d hx (.inl hn)
    exact wpAny_loadName_cell hk hn e1 e2 (hQ v s.heap s.toks (Up.refl _) e3)
  · obtain ⟨c, v, e1, e2, e3⟩ := F.cel x d hx (.inr hn)
    exact wpAny_loadName_free hk hn e1 e2 (hQ v s.heap s.toks (Up.refl _) e3) hc

theorem ev_int {i : Int} {k : Nat} {pos : Pos} : Ev W A env G (.Constant (.int i) k pos) (.int i) :=
  fun _ s _ _ _ _ hQ => wpAny_Constant_int (hQ _ s.heap _ (Up.refl _) (.int i _))
theorem ev_bool {b : Bool} {k : Nat} {pos : Pos} : Ev W A env G (.Constant (.bool b) k pos) (.bool b) :=
  fun _ s _ _ _ _ hQ => wpAny_Constant_bool (hQ _ s.heap s.toks (Up.refl _) (.bool b))
theorem ev_str {x : Str} {k : Nat} {pos : Pos} : Ev W A env G (.Constant (.str x) k pos) (.str x) :=
  fun _ s _ _ _ _ hQ => wpAny_Constant_str (hQ _ s.heap _ (Up.refl _) (.str x _))

/-- two expressions, then a tree over their values -/
theorem ev_two {e₁ e₂ : Expr} {d₁ d₂ : PyData} {bad : List Addr} {s : Shared} (h₁ : Ev W A env G e₁ d₁) (h₂ : Ev W A env G e₂ d₂) (F : FS env bad G s.heap) (B : Bs W bad s.heap)
    {E : Value → Shared → Prop} {P : Value → Value → Shared → Prop}
    (h : ∀ v₁ v₂ h' tk, Up s.heap h' → Rp (cut h' bad) v₁ d₁ → Rp (cut h' bad) v₂ d₂ → P v₁ v₂ { s with heap := h', toks := tk }) :
    wpAny (model W.prog W.w) A (eval e₁ env) (fun v₁ s₁ => wpAny (model W.prog W.w) A (eval e₂ env) (fun v₂ s₂ => P v₁ v₂ s₂) E s₁) E s := by
  refine h₁ bad s F B _ _ fun v₁ h' tk u r₁ => ?_
  refine h₂ bad _ (F.up u) (B.up u) _ _ fun v₂ h'' tk' u' r₂ => ?_
  exact h v₁ v₂ h'' tk' (u.trans u') (r₁.up (u'.keep bad).cut) r₂

theorem ev_binop {op : Operator} {e₁ e₂ : Expr} {pos : Pos} {d₁ d₂ d : PyData} (h₁ : Ev W A env G e₁ d₁) (h₂ : Ev W A env G e₂ d₂)
    (h : ∀ (bad : List Addr) (s : Shared) (v₁ v₂ : Value), FS env bad G s.heap → Bs W bad s.heap → Rp (cut s.heap bad) v₁ d₁ → Rp (cut s.heap bad) v₂ d₂ → Gives W A (binaryOp op v₁ v₂) bad s d) :
    Ev W A env G (.BinOp e₁ op e₂ pos) d := by
  intro bad s F B Q E hQ
  refine wpAny_BinOp (ev_two h₁ h₂ F B fun v₁ v₂ h' tk u r₁ r₂ => ?_)
  exact h bad _ v₁ v₂ (F.up u) (B.up u) r₁ r₂ Q E fun v h'' tk' u' r => hQ v h'' tk' (u.trans u') r

theorem rp_int {h : Heap} {v : Value} {i : Int} (r : Rp h v (.int i)) : ∃ t, v = .int i t := by cases r; exact ⟨_, rfl⟩
theorem rp_bool {h : Heap} {v : Value} {i : Bool} (r : Rp h v (.bool i)) : v = .bool i := by cases r; rfl

theorem ev_add {e₁ e₂ : Expr} {pos : Pos} {a b : Int} (h₁ : Ev W A env G e₁ (.int a)) (h₂ : Ev W A env G e₂ (.int b)) : Ev W A env G (.BinOp e₁ .Add e₂ pos) (.int (a + b)) :=
  ev_binop h₁ h₂ fun bad s v₁ v₂ _ _ r₁ r₂ Q E hQ => by
    obtain ⟨t, rfl⟩ := rp_int r₁; obtain ⟨u, rfl⟩ := rp_int r₂
    exact PyProof.Rows.add_int (hQ _ s.heap _ (Up.refl _) (.int _ _))
theorem ev_sub {e₁ e₂ : Expr} {pos : Pos} {a b : Int} (h₁ : Ev W A env G e₁ (.int a)) (h₂ : Ev W A env G e₂ (.int b)) : Ev W A env G (.BinOp e₁ .Sub e₂ pos) (.int (a - b)) :=
  ev_binop h₁ h₂ fun bad s v₁ v₂ _ _ r₁ r₂ Q E hQ => by
    obtain ⟨t, rfl⟩ := rp_int r₁; obtain ⟨u, rfl⟩ := rp_int r₂
    exact sub_int' (hQ _ s.heap _ (Up.refl _) (.int _ _))
end
end Mine

namespace Mine
section
variable {W : Wd} {A : Around} {env : Env} {G : Cx}

theorem ev_mul {e₁ e₂ : Expr} {pos : Pos} {a b : Int} (h₁ : Ev W A env G e₁ (.int a)) (h₂ : Ev W A env G e₂ (.int b)) (hm : IntMulOk a b) : Ev W A env G (.BinOp e₁ .Mult e₂ pos) (.int (a * b)) :=
  ev_binop h₁ h₂ fun bad s v₁ v₂ _ _ r₁ r₂ Q E hQ => by
    obtain ⟨t, rfl⟩ := rp_int r₁; obtain ⟨u, rfl⟩ := rp_int r₂
    exact PyProof.Rows.mul_int (hQ _ s.heap _ (Up.refl _) (.int _ _)) hm
theorem ev_mod {e₁ e₂ : Expr} {pos : Pos} {a b : Int} (h₁ : Ev W A env G e₁ (.int a)) (h₂ : Ev W A env G e₂ (.int b)) (hb : b ≠ 0) : Ev W A env G (.BinOp e₁ .Mod e₂ pos) (.int (a.fmod b)) :=
  ev_binop h₁ h₂ fun bad s v₁ v₂ _ _ r₁ r₂ Q E hQ => by
    obtain ⟨t, rfl⟩ := rp_int r₁; obtain ⟨u, rfl⟩ := rp_int r₂
    exact mod_int' hb (hQ _ s.heap _ (Up.refl _) (.int _ _))
theorem ev_floordiv {e₁ e₂ : Expr} {pos : Pos} {a b : Int} (h₁ : Ev W A env G e₁ (.int a)) (h₂ : Ev W A env G e₂ (.int b)) (hb : b ≠ 0) (hs : b.natAbs < 1073741824) :
    Ev W A env G (.BinOp e₁ .FloorDiv e₂ pos) (.int (a.fdiv b)) :=
  ev_binop h₁ h₂ fun bad s v₁ v₂ _ _ r₁ r₂ Q E hQ => by
    obtain ⟨t, rfl⟩ := rp_int r₁; obtain ⟨u, rfl⟩ := rp_int r₂
    exact floordiv_int hb (hQ _ s.heap _ (Up.refl _) (.int _ _)) (.inl (PyProof.noPylong_small hs))
theorem ev_pow {e₁ e₂ : Expr} {pos : Pos} {a b : Int} (h₁ : Ev W A env G e₁ (.int a)) (h₂ : Ev W A env G e₂ (.int b)) (hb : 0 ≤ b) (hs : (Builtin.Int.intBits a : Int) * b ≤ 2 ^ 27) :
    Ev W A env G (.BinOp e₁ .Pow e₂ pos) (.int (a ^ b.toNat)) :=
  ev_binop h₁ h₂ fun bad s v₁ v₂ _ _ r₁ r₂ Q E hQ => by
    obtain ⟨t, rfl⟩ := rp_int r₁; obtain ⟨u, rfl⟩ := rp_int r₂
    exact pow_int hb hs (hQ _ s.heap _ (Up.refl _) (.int _ _))
theorem ev_rshift {e₁ e₂ : Expr} {pos : Pos} {a b : Int} (h₁ : Ev W A env G e₁ (.int a)) (h₂ : Ev W A env G e₂ (.int b)) (hb : 0 ≤ b) :
    Ev W A env G (.BinOp e₁ .RShift e₂ pos) (.int (a.fdiv (2 ^ b.toNat))) :=
  ev_binop h₁ h₂ fun bad s v₁ v₂ _ _ r₁ r₂ Q E hQ => by
    obtain ⟨t, rfl⟩ := rp_int r₁; obtain ⟨u, rfl⟩ := rp_int r₂
    exact rshift_int hb (hQ _ s.heap _ (Up.refl _) (.int _ _))
theorem ev_lshift {e₁ e₂ : Expr} {pos : Pos} {a b : Int} (h₁ : Ev W A env G e₁ (.int a)) (h₂ : Ev W A env G e₂ (.int b)) (hb : 0 ≤ b) (hb2 : b ≤ 1000000) (ha : a.natAbs < 2 ^ 64) :
    Ev W A env G (.BinOp e₁ .LShift e₂ pos) (.int (a * 2 ^ b.toNat)) :=
  ev_binop h₁ h₂ fun bad s v₁ v₂ _ _ r₁ r₂ Q E hQ => by
    obtain ⟨t, rfl⟩ := rp_int r₁; obtain ⟨u, rfl⟩ := rp_int r₂
    exact lshift_int_small hb hb2 ha (hQ _ s.heap _ (Up.refl _) (.int _ _))
theorem ev_xor {e₁ e₂ : Expr} {pos : Pos} {a b : Int} (h₁ : Ev W A env G e₁ (.int a)) (h₂ : Ev W A env G e₂ (.int b)) :
    Ev W A env G (.BinOp e₁ .BitXor e₂ pos) (.int (Builtin.bitXor a b)) :=
  ev_binop h₁ h₂ fun bad s v₁ v₂ _ _ r₁ r₂ Q E hQ => by
    obtain ⟨t, rfl⟩ := rp_int r₁; obtain ⟨u, rfl⟩ := rp_int r₂
    exact xor_int (hQ _ s.heap _ (Up.refl _) (.int _ _))

/-- a new object of data, in the heap without the addresses that may turn -/
theorem cut_push {h : Heap} {bad : List Addr} {o : Obj} (hf : h.objs.size ∉ bad) (ho : o.isFreed = false) : (cut (h.push o) bad).get? h.objs.size = some o := hideAll_get bad (Heap.get?_push_size h ho) hf
theorem cut_push_up {h : Heap} {bad : List Addr} (o : Obj) : Up (cut h bad) (cut (h.push o) bad) := ((Up.push h o).keep bad).cut
theorem rp_new_list {h : Heap} {bad : List Addr} {vs : List Value} {ds : List PyData} (hf : h.objs.size ∉ bad) (r : Rps (cut h bad) vs ds) :
    Rp (cut (h.push { cls := .type "list", data := .seq vs.toArray }) bad) (.ref h.objs.size) (.list ds) := .list (cut_push hf rfl) (r.up (cut_push_up _))
theorem rp_new_tuple {h : Heap} {bad : List Addr} {vs : List Value} {ds : List PyData} (hf : h.objs.size ∉ bad) (r : Rps (cut h bad) vs ds) :
    Rp (cut (h.push { cls := .type "tuple", data := .seq vs.toArray }) bad) (.ref h.objs.size) (.tuple ds) := .tuple (cut_push hf rfl) (r.up (cut_push_up _))
theorem rp_list {h : Heap} {bad : List Addr} {v : Value} {ds : List PyData} (r : Rp (cut h bad) v (.list ds)) :
    ∃ a vs n, v = .ref a ∧ (cut h bad).get? a = some { cls := .type "list", data := .seq vs.toArray n } ∧ h.get? a = some { cls := .type "list", data := .seq vs.toArray n } ∧ a ∉ bad ∧ Rps (cut h bad) vs ds := by
  cases r with | list e r => exact ⟨_, _, _, rfl, e, (cut_get e).1, (cut_get e).2, r⟩
theorem rp_tuple {h : Heap} {bad : List Addr} {v : Value} {ds : List PyData} (r : Rp (cut h bad) v (.tuple ds)) :
    ∃ a vs n, v = .ref a ∧ (cut h bad).get? a = some { cls := .type "tuple", data := .seq vs.toArray n } ∧ h.get? a = some { cls := .type "tuple", data := .seq vs.toArray n } ∧ a ∉ bad ∧ Rps (cut h bad) vs ds := by
  cases r with | tuple e r => exact ⟨_, _, _, rfl, e, (cut_get e).1, (cut_get e).2, r⟩

theorem ev_addL {e₁ e₂ : Expr} {pos : Pos} {xs ys : List PyData} (h₁ : Ev W A env G e₁ (.list xs)) (h₂ : Ev W A env G e₂ (.list ys)) (hsz : xs.length + ys.length ≤ sizeLine) :
    Ev W A env G (.BinOp e₁ .Add e₂ pos) (.list (xs ++ ys)) :=
  ev_binop h₁ h₂ fun bad s v₁ v₂ F _ r₁ r₂ Q E hQ => by
    obtain ⟨a, vs, n, rfl, _, e₁, _, q₁⟩ := rp_list r₁; obtain ⟨b, ws, m, rfl, _, e₂, _, q₂⟩ := rp_list r₂
    refine PySem.P.add_list e₁ e₂ ?_ (by simpa [q₁.length, q₂.length] using hsz)
    have := rp_new_list F.fresh (q₁.append q₂)
    rw [show (vs ++ ws).toArray = vs.toArray ++ ws.toArray from by simp] at this
    exact hQ _ _ s.toks (Up.push _ _) this

/-- comparisons -/
def CmpG (W : Wd) (A : Around) (op : CmpOp) (d₁ d₂ : PyData) (b : Bool) : Prop :=
  ∀ (bad : List Addr) (s : Shared) (v₁ v₂ : Value) (Q E : Value → Shared → Prop), Rp (cut s.heap bad) v₁ d₁ → Rp (cut s.heap bad) v₂ d₂ → Q (.bool b) s → wpAny (model W.prog W.w) A (compareOp op v₁ v₂) Q E s
theorem ev_cmp {op : CmpOp} {e₁ e₂ : Expr} {pos : Pos} {d₁ d₂ : PyData} {b : Bool} (h₁ : Ev W A env G e₁ d₁) (h₂ : Ev W A env G e₂ d₂) (hc : CmpG W A op d₁ d₂ b) (hm : behindInMarks op e₂ = false := by with_unfolding_all rfl) :
    Ev W A env G (.Compare e₁ [op] [e₂] pos) (.bool b) := by
  intro bad s F B Q E hQ
  refine wpAny_Compare1 (ev_two h₁ h₂ F B fun v₁ v₂ h' tk u r₁ r₂ => ?_) hm
  exact hc bad _ v₁ v₂ _ _ r₁ r₂ (hQ _ h' tk u (.bool b))
theorem et_cmp {op : CmpOp} {e₁ e₂ : Expr} {pos : Pos} {d₁ d₂ : PyData} {b : Bool} (h₁ : Ev W A env G e₁ d₁) (h₂ : Ev W A env G e₂ d₂) (hc : CmpG W A op d₁ d₂ b) (hm : behindInMarks op e₂ = false := by with_unfolding_all rfl) :
    Et W A env G (.Compare e₁ [op] [e₂] pos) b := by
  intro bad s Q E F B hQ
  refine wpAny_isTrue_Compare1 (ev_two h₁ h₂ F B fun v₁ v₂ h' tk u r₁ r₂ => ?_) hm
  exact hc bad _ v₁ v₂ _ _ r₁ r₂ (wpAny_truthy_bool (hQ h' tk u))
theorem cmp_eq {d₁ d₂ : PyData} {b : Bool} (h1 : SeqAt.shaped d₁ = true) (h2 : SeqAt.shaped d₂ = true) (hu : A.units + 64 < cLine) (hb : PyData.eqv d₁ d₂ = b) : CmpG W A .Eq d₁ d₂ b := by
  intro bad s v₁ v₂ Q E r₁ r₂ h
  obtain ⟨as, q₁⟩ := r₁.reads (SeqAt.canLay_of_shaped h1); obtain ⟨bs, q₂⟩ := r₂.reads (SeqAt.canLay_of_shaped h2)
  exact eq_dataH (Reads.keeps (cut_up _ _) q₁) (Reads.keeps (cut_up _ _) q₂) h1 h2 hu (by rw [hb]; exact h)
theorem cmp_ne {d₁ d₂ : PyData} {b : Bool} (h1 : SeqAt.shaped d₁ = true) (h2 : SeqAt.shaped d₂ = true) (hu : A.units + 64 < cLine) (hb : PyData.eqv d₁ d₂ = b) : CmpG W A .NotEq d₁ d₂ (!b) := by
  intro bad s v₁ v₂ Q E r₁ r₂ h
  obtain ⟨as, q₁⟩ := r₁.reads (SeqAt.canLay_of_shaped h1); obtain ⟨bs, q₂⟩ := r₂.reads (SeqAt.canLay_of_shaped h2)
  exact ne_dataH (Reads.keeps (cut_up _ _) q₁) (Reads.keeps (cut_up _ _) q₂) h1 h2 hu (by rw [hb]; exact h)
theorem cmp_in {d : PyData} {xs : List PyData} {b : Bool} (h1 : SeqAt.shaped (.list xs) = true) (h2 : SeqAt.shaped d = true) (hu : A.units + 65 < cLine) (hb : (xs.any fun y => PyData.eqv y d) = b) : CmpG W A .In d (.list xs) b := by
  intro bad s v₁ v₂ Q E r₁ r₂ h
  obtain ⟨as, q₁⟩ := r₁.reads (SeqAt.canLay_of_shaped h2); obtain ⟨bs, q₂⟩ := r₂.reads (SeqAt.canLay_of_shaped h1)
  exact SeqAt.in_list_reads (Reads.keeps (cut_up _ _) q₂) (Reads.keeps (cut_up _ _) q₁) (SeqAt.canLay_of_shaped h1) (SeqAt.canLay_of_shaped h2) (room_in_shaped h2 hu) (by rw [hb]; exact h)
theorem cmp_notIn {d : PyData} {xs : List PyData} {b : Bool} (h1 : SeqAt.shaped (.list xs) = true) (h2 : SeqAt.shaped d = true) (hu : A.units + 65 < cLine) (hb : (xs.any fun y => PyData.eqv y d) = b) : CmpG W A .NotIn d (.list xs) (!b) := by
  intro bad s v₁ v₂ Q E r₁ r₂ h
  obtain ⟨as, q₁⟩ := r₁.reads (SeqAt.canLay_of_shaped h2); obtain ⟨bs, q₂⟩ := r₂.reads (SeqAt.canLay_of_shaped h1)
  exact SeqAt.notIn_list_reads (Reads.keeps (cut_up _ _) q₂) (Reads.keeps (cut_up _ _) q₁) (SeqAt.canLay_of_shaped h1) (SeqAt.canLay_of_shaped h2) (room_in_shaped h2 hu) (by rw [hb]; exact h)

/-- tests -/
theorem et_bool {e : Expr} {b : Bool} (h : Ev W A env G e (.bool b)) (he : ∀ whole, isTrue e env whole = (do let v ← whole; standAt e.pos; holding [v] (truthy v)) := by intro _; rfl) : Et W A env G e b := by
  intro bad s Q E F B hQ
  refine wpAny_isTrue_value (h bad s F B _ _ fun v h' tk u r => ?_) (he _)
  rw [rp_bool r]
  exact wpAny_truthy_bool (hQ h' tk u)
def EtAll (W : Wd) (A : Around) (env : Env) (G : Cx) (op : BoolOp) (es : List Expr) (b : Bool) : Prop :=
  ∀ (bad : List Addr) (s : Shared) (Q : Bool → Shared → Prop) (E : Value → Shared → Prop), FS env bad G s.heap → Bs W bad s.heap →
    (∀ h' tk, Up s.heap h' → Q b { s with heap := h', toks := tk }) → wpAny (model W.prog W.w) A (allTrue op es env) Q E s
theorem et_boolop {op : BoolOp} {es : List Expr} {pos : Pos} {b : Bool} (h : EtAll W A env G op es b) : Et W A env G (.BoolOp op es pos) b :=
  fun bad s Q E F B hQ => wpAny_isTrue_BoolOp (h bad s Q E F B hQ)
theorem ea_and_nil : EtAll W A env G .And [] true := fun _ s _ _ _ _ hQ => wpAny_allTrue_And_nil (hQ s.heap s.toks (Up.refl _))
theorem ea_or_nil : EtAll W A env G .Or [] false := fun _ s _ _ _ _ hQ => wpAny_allTrue_Or_nil (hQ s.heap s.toks (Up.refl _))
theorem ea_and {e : Expr} {es : List Expr} {b c : Bool} (h : Et W A env G e b) (k : b = true → EtAll W A env G .And es c) : EtAll W A env G .And (e :: es) (b && c) := by
  intro bad s Q E F B hQ
  refine wpAny_allTrue_And_cons (h bad s _ _ F B fun h' tk u => ?_)
  cases b with
  | false => exact hQ h' tk u
  | true => exact k rfl bad _ _ _ (F.up u) (B.up u) fun h'' tk' u' => hQ h'' tk' (u.trans u')
theorem ea_or {e : Expr} {es : List Expr} {b c : Bool} (h : Et W A env G e b) (k : b = false → EtAll W A env G .Or es c) : EtAll W A env G .Or (e :: es) (b || c) := by
  intro bad s Q E F B hQ
  refine wpAny_allTrue_Or_cons (h bad s _ _ F B fun h' tk u => ?_)
  cases b with
  | true => exact hQ h' tk u
  | false => exact k rfl bad _ _ _ (F.up u) (B.up u) fun h'' tk' u' => hQ h'' tk' (u.trans u')
theorem ev_ifexp {t e₁ e₂ : Expr} {pos : Pos} {b : Bool} {d₁ d₂ : PyData} (ht : Et W A env G t b) (h₁ : b = true → Ev W A env G e₁ d₁) (h₂ : b = false → Ev W A env G e₂ d₂) :
    Ev W A env G (.IfExp t e₁ e₂ pos) (if b then d₁ else d₂) := by
  intro bad s F B Q E hQ
  rw [arm_eval_IfExp]
  refine wpAny_bind (ht bad s _ _ F B fun h' tk u => ?_)
  cases b with
  | true => exact h₁ rfl bad _ (F.up u) (B.up u) _ _ fun v h'' tk' u' r => hQ v h'' tk' (u.trans u') r
  | false => exact h₂ rfl bad _ (F.up u) (B.up u) _ _ fun v h'' tk' u' r => hQ v h'' tk' (u.trans u') r

/-- several expressions, one behind the other -/
def Sp (W : Wd) (A : Around) (env : Env) (G : Cx) (es : List Expr) (ds : List PyData) : Prop :=
  ∀ (pos : Pos) (bad : List Addr) (s : Shared) (Q : List Value → Shared → Prop) (E : Value → Shared → Prop), FS env bad G s.heap → Bs W bad s.heap →
    (∀ vs h' tk, Up s.heap h' → Rps (cut h' bad) vs ds → Q vs { s with heap := h', toks := tk }) → wpAny (model W.prog W.w) A (spliced (backTo pos (starEach es env))) Q E s
theorem sp_nil : Sp W A env G [] [] := fun _ _ s _ _ _ _ hQ => wpAny_items_nil (hQ [] s.heap s.toks (Up.refl _) .nil)
theorem sp_cons {e : Expr} {es : List Expr} {d : PyData} {ds : List PyData} (h : Ev W A env G e d) (k : Sp W A env G es ds) (he : starEach (e :: es) env = (false, eval e env) :: starEach es env := by rfl) : Sp W A env G (e :: es) (d :: ds) := by
  intro pos bad s Q E F B hQ
  refine wpAny_items_cons (h bad s F B _ _ fun v h' tk u r => ?_) he
  refine k pos bad _ _ _ (F.up u) (B.up u) fun vs h'' tk' u' rs => ?_
  exact hQ (v :: vs) h'' tk' (u.trans u') (.cons (r.up (u'.keep bad).cut) rs)
theorem ev_tuple {es : List Expr} {k : Nat} {pos : Pos} {ds : List PyData} (h : Sp W A env G es ds) (hsz : ds.length ≤ sizeLine) : Ev W A env G (.Tuple es k pos) (.tuple ds) := by
  intro bad s F B Q E hQ
  refine wpAny_Tuple (h pos bad s _ _ F B fun vs h' tk u r => ⟨r.length ▸ hsz, ?_⟩)
  exact hQ _ _ tk (u.trans (Up.push _ _)) (rp_new_tuple (F.up u).fresh r)
theorem ev_list {es : List Expr} {pos : Pos} {ds : List PyData} (h : Sp W A env G es ds) (hsz : ds.length ≤ sizeLine) : Ev W A env G (.List es pos) (.list ds) := by
  intro bad s F B Q E hQ
  refine wpAny_List (h pos bad s _ _ F B fun vs h' tk u r => ⟨r.length ▸ hsz, ?_⟩)
  exact hQ _ _ tk (u.trans (Up.push _ _)) (rp_new_list (F.up u).fresh r)

/-- an item of a list, of a tuple -/
theorem ev_item {e i : Expr} {pos : Pos} {ds : List PyData} {k : Int} {d : PyData} (h₁ : Ev W A env G e (.list ds)) (h₂ : Ev W A env G i (.int k)) (h0 : 0 ≤ k) (hfit : k < 2 ^ 63) (hd : ds[k.toNat]? = some d)
    (hs : ∀ o t, subscripted i false (.ref o) (.int k t) = operate [.ref o, .int k t] (getItem (.ref o) (.int k t)) := by intro _ _; with_unfolding_all rfl) :
    Ev W A env G (.Subscript e i pos) d := by
  intro bad s F B Q E hQ
  refine Subscript_ (ev_two h₁ h₂ F B fun v₁ v₂ h' tk u r₁ r₂ => ?_)
  obtain ⟨a, vs, n, rfl, _, e₁, _, q₁⟩ := rp_list r₁; obtain ⟨t, rfl⟩ := rp_int r₂
  obtain ⟨v, hv, r⟩ := q₁.get hd
  have hl : Heap.IsList h' a vs.toArray := ⟨_, e₁, rfl, n, rfl⟩
  exact tail_any (s := { s with heap := h', toks := tk }) (Heap.IsList.typeIs (s := { s with heap := h', toks := tk }) hl) slot_list_getitem.lookup (wpAny_getItem_list (x := v) hl h0 hfit (by simpa using hv) (hQ v h' tk u r)) (hs a t)
theorem ev_itemT {e i : Expr} {pos : Pos} {ds : List PyData} {k : Int} {d : PyData} (h₁ : Ev W A env G e (.tuple ds)) (h₂ : Ev W A env G i (.int k)) (h0 : 0 ≤ k) (hfit : k < 2 ^ 63) (hk : k < ds.length) (hd : ds[k.toNat]? = some d)
    (hs : ∀ o t, subscripted i false (.ref o) (.int k t) = operate [.ref o, .int k t] (getItem (.ref o) (.int k t)) := by intro _ _; with_unfolding_all rfl) :
    Ev W A env G (.Subscript e i pos) d := by
  intro bad s F B Q E hQ
  refine Subscript_ (ev_two h₁ h₂ F B fun v₁ v₂ h' tk u r₁ r₂ => ?_)
  obtain ⟨a, vs, n, rfl, _, e₁, _, q₁⟩ := rp_tuple r₁; obtain ⟨t, rfl⟩ := rp_int r₂
  obtain ⟨v, hv, r⟩ := q₁.get hd
  have hl : IsTup h' a vs.toArray := ⟨_, e₁, rfl, n, rfl⟩
  have hj : seqIndex? k vs.length = some k.toNat := by
    unfold seqIndex?
    have := q₁.length
    simp only [show ¬ k < 0 by omega, if_false]
    first
      | rw [if_neg (by omega)]
      | rw [if_pos (by omega)]
      | (simp; omega)
  exact item_tupleT (s := { s with heap := h', toks := tk }) hl (by omega) hfit hj hv (hQ v h' tk u r) (hs a t)
end
end Mine

namespace Mine

def testsOf (ifs : List Expr) (env : Env) : Sem Bool := forIn ifs true fun c r => if r = true then do let ok ← isTrue c env (eval c env); pure (ForInStep.yield ok) else pure (ForInStep.yield r)

theorem compTurn_last {elt : Expr} {gens : List Comprehension} {scope : Scope} {pos : Pos} {k : Nat} {target iter : Expr} {ifs : List Expr} (hk : gens[k]? = some ⟨target, iter, ifs, 0⟩) (hn : gens[k + 1]? = none) (it acc : Value) (env : Env) :
    compTurn (.ListComp elt gens scope pos) k it acc env = (do
      standAt iter.pos
      match ← pyNext it with
      | none => pure (.done .next)
      | some v =>
        letOwnedTupleGo target it v
        assign target env v
        let ok ← testsOf ifs env
        if ok then
          (do let _ ← call (.builtin "list.append") [acc, ← eval elt env])
        again (.compLoop (.ListComp elt gens scope pos) k it acc env)) := by
  unfold compTurn
  simp only [hk, hn]
  rfl
theorem compTurn_inner {elt : Expr} {gens : List Comprehension} {scope : Scope} {pos : Pos} {k : Nat} {target iter t' i' : Expr} {ifs ifs' : List Expr} (hk : gens[k]? = some ⟨target, iter, ifs, 0⟩) (hn : gens[k + 1]? = some ⟨t', i', ifs', 0⟩) (it acc : Value) (env : Env) :
    compTurn (.ListComp elt gens scope pos) k it acc env = (do
      standAt iter.pos
      match ← pyNext it with
      | none => pure (.done .next)
      | some v =>
        letOwnedTupleGo target it v
        assign target env v
        let ok ← testsOf ifs env
        if ok then
          let x ← eval i' env
          standAt i'.pos
          let x ← foldedSetIterable i' env x
          let _ ← runOwn (.compStart (.ListComp elt gens scope pos) (k + 1) (← holding [x] (pyIter x)) acc env) env
        again (.compLoop (.ListComp elt gens scope pos) k it acc env)) := by
  unfold compTurn
  simp only [hk, hn]
  rfl

/-- what a turn does behind its tests -/
def wpRest (W : Wd) (A : Around) (elt : Expr) (gens : List Comprehension) (scope : Scope) (pos : Pos) (k : Nat) (acc : Value) (env : Env) (Q : Shared → Prop) (E : Value → Shared → Prop) (s : Shared) : Prop :=
  match gens[k + 1]? with
  | some g' => wpAny (model W.prog W.w) A (eval g'.iter env) (fun x s₁ => wpAny (model W.prog W.w) A (pyIter x) (fun it s₂ =>
      wpAny (model W.prog W.w) A (runOwn (.compStart (.ListComp elt gens scope pos) (k + 1) it acc env) env) (fun _ s₃ => Q s₃) E s₂) E s₁) E s
  | none => wpAny (model W.prog W.w) A (eval elt env) (fun x s₁ => wpAny (model W.prog W.w) A (call (.builtin "list.append") [acc, x]) (fun _ s₂ => Q s₂) E s₁) E s
/-- the next clause is a plain one -/
def plainNext (gens : List Comprehension) (k : Nat) : Prop := ∀ g', gens[k + 1]? = some g' → g'.is_async = 0 ∧ ∀ env x, foldedSetIterable g'.iter env x = pure x

theorem codeAny_comp {W : Wd} {A : Around} {elt : Expr} {gens : List Comprehension} {scope : Scope} {pos : Pos} {k : Nat} {target iter : Expr} {ifs : List Expr} {it acc : Value} {env : Env} {R : Result → Shared → Prop} {s : Shared}
    (hk : gens[k]? = some ⟨target, iter, ifs, 0⟩) (hp : plainNext gens k) (I : Nat → Shared → Prop)
    (turn : ∀ n s, I n s → ∀ E, wpAny (model W.prog W.w) A (pyNext it) (fun r s₁ => match r with
      | none => R (.ok .next) s₁
      | some v => wpAny (model W.prog W.w) A (letOwnedTupleGo target it v) (fun _ s₁' => wpAny (model W.prog W.w) A (assign target env v) (fun _ s₂ =>
          wpAny (model W.prog W.w) A (testsOf ifs env) (fun ok s₃ => if ok = true then wpRest W A elt gens scope pos k acc env (fun s₄ => ∃ m, m < n ∧ I m s₄) E s₃ else ∃ m, m < n ∧ I m s₃) E s₂) E s₁') E s₁) E s)
    (n : Nat) (h : I n s) : codeAny (model W.prog W.w) A (.compLoop (.ListComp elt gens scope pos) k it acc env) R s := by
  refine codeAny_loop rfl I (fun n s hI => ?_) n h
  show wpAny _ A ((compTurn (.ListComp elt gens scope pos) k it acc env).onRaise (fun x => do noteFrame x env; theTreesLotGoes x)) _ _ s
  refine wpAny_noted ?_
  cases hn : gens[k + 1]? with
  | none =>
    rw [compTurn_last hk hn]
    refine wpAny_bind (wpAny_standAt (wpAny_bind (wpAny_mono (turn n s hI _) (fun r s₁ h₁ => ?_) fun _ _ e => e)))
    cases r with
    | none => exact wpAny_pure h₁
    | some v =>
      refine wpAny_bind (wpAny_mono h₁ (fun _ s₁' h₁' => wpAny_bind (wpAny_mono h₁' (fun _ s₂ h₂ => wpAny_bind (wpAny_mono h₂ (fun ok s₃ h₃ => ?_) fun _ _ e => e)) fun _ _ e => e)) fun _ _ e => e)
      cases ok with
      | false => exact wpAny_pure ⟨rfl, h₃⟩
      | true =>
        simp only [if_true] at h₃ ⊢
        unfold wpRest at h₃
        rw [hn] at h₃
        exact wpAny_bind (wpAny_bind (wpAny_mono h₃ (fun x s₄ h₄ => wpAny_bind (wpAny_mono h₄ (fun _ s₅ h₅ => wpAny_pure (wpAny_pure ⟨rfl, h₅⟩)) fun _ _ e => e)) fun _ _ e => e))
  | some g' =>
    obtain ⟨t', i', ifs', a'⟩ := g'
    obtain ⟨ha, hs⟩ := hp _ hn
    simp only at ha hs
    subst ha
    rw [compTurn_inner hk hn]
    refine wpAny_bind (wpAny_standAt (wpAny_bind (wpAny_mono (turn n s hI _) (fun r s₁ h₁ => ?_) fun _ _ e => e)))
    cases r with
    | none => exact wpAny_pure h₁
    | some v =>
      refine wpAny_bind (wpAny_mono h₁ (fun _ s₁' h₁' => wpAny_bind (wpAny_mono h₁' (fun _ s₂ h₂ => wpAny_bind (wpAny_mono h₂ (fun ok s₃ h₃ => ?_) fun _ _ e => e)) fun _ _ e => e)) fun _ _ e => e)
      cases ok with
      | false => exact wpAny_pure ⟨rfl, h₃⟩
      | true =>
        simp only [if_true] at h₃ ⊢
        unfold wpRest at h₃
        rw [hn] at h₃
        exact wpAny_bind (wpAny_mono h₃ (fun x s₄ h₄ => wpAny_bind (wpAny_standAt (wpAny_bind (wpAny_of_eq (hs _ _) (wpAny_bind (wpAny_holding (wpAny_mono h₄ (fun it' s₅ h₅ => wpAny_bind (wpAny_mono h₅ (fun _ s₆ h₆ => wpAny_pure ⟨rfl, h₆⟩) fun _ _ e => e)) fun _ _ e => e))))))) fun _ _ e => e)

/-- addresses that did not stand ahead of the step -/
theorem Keep.fresh' {own md : List Addr} {h₀ h h' : Heap} (K : Keep (own ++ md) h h') (hf : ∀ b ∈ own, h₀.get? b = none) (u : Up h₀ h) : Keep md h₀ h' := fun b o hb e =>
  K b o (fun q => (List.mem_append.mp q).elim (fun q => by rw [hf b q] at e; cases e) hb) (u b o e)

/-- an iterator that gives `ds`, one behind the other; it turns `own` alone -/
structure Itr (W : Wd) (A : Around) (target : Expr) (bad own : List Addr) (I : Addr) (ds : List PyData) (St : Nat → Heap → Prop) : Prop where
  frame : ∀ i h h', St i h → (∀ b o, b ∈ own → h.get? b = some o → h'.get? b = some o) → Keep bad h h' → St i h'
  live : ∀ i h, St i h → ∀ b ∈ own, ∃ o, h.get? b = some o
  item : ∀ i d (s : Shared) (Q : Value → Shared → Prop) (E : Value → Shared → Prop), ds[i]? = some d → St i s.heap → (∀ b ∈ bad, ∃ o, s.heap.get? b = some o) →
    (∀ v h' tk, Keep own s.heap h' → St (i + 1) h' → Rp (cut h' bad) v d → Q v { s with heap := h', toks := tk }) →
    wpAny (model W.prog W.w) A (pyNext (.ref I)) (fun r s₁ => ∃ v, r = some v ∧ wpAny (model W.prog W.w) A (letOwnedTupleGo target (.ref I) v) (fun _ s₂ => Q v s₂) E s₁) E s
  done : ∀ (s : Shared) (Q : Option Value → Shared → Prop) (E : Value → Shared → Prop), St ds.length s.heap → (∀ h' tk, Keep own s.heap h' → Q none { s with heap := h', toks := tk }) → wpAny (model W.prog W.w) A (pyNext (.ref I)) Q E s
  self : ∀ i (s : Shared) (Q : Value → Shared → Prop) (E : Value → Shared → Prop), St i s.heap → Q (.ref I) s → wpAny (model W.prog W.w) A (pyIter (.ref I)) Q E s

/-- the expression is iterable: it gives `ds` -/
def EvI (W : Wd) (A : Around) (env : Env) (G : Cx) (target e : Expr) (ds : List PyData) : Prop :=
  ∀ (bad : List Addr) (s : Shared) (Q : Value → Shared → Prop) (E : Value → Shared → Prop), FS env bad G s.heap → Bs W bad s.heap →
    (∀ I own St h' tk, Up s.heap h' → (∀ b ∈ own, s.heap.get? b = none) → St 0 h' → (∀ b ∈ own, ∃ o, h'.get? b = some o) →
      (∀ bad', (∀ b ∈ own, b ∈ bad') → (∀ b ∈ bad, b ∈ bad') → (∀ b ∈ bad', b ∈ bad ∨ b ∈ own ∨ h'.objs.size ≤ b) → Itr W A target bad' own I ds St) → Q (.ref I) { s with heap := h', toks := tk }) →
    wpAny (model W.prog W.w) A (eval e env) (fun x s₁ => wpAny (model W.prog W.w) A (pyIter x) Q E s₁) E s

/-- a target takes a value; what turns lies in `md` -/
def As (W : Wd) (A : Around) (env : Env) (G : Cx) (target : Expr) (d : PyData) (G' : Cx) (md : List Addr) : Prop :=
  ∀ (bad : List Addr) (s : Shared) (v : Value) (Q : Unit → Shared → Prop) (E : Value → Shared → Prop), FS env bad G s.heap → Rp (cut s.heap bad) v d →
    (∀ h' tk, FS env bad G' h' → Keep md s.heap h' → (∀ b o, ¬ Own env b → s.heap.get? b = some o → h'.get? b = some o) → Q () { s with heap := h', toks := tk }) → wpAny (model W.prog W.w) A (assign target env v) Q E s

/-- within a comprehension: the frame, and the list that grows -/
structure CS (env : Env) (bad : List Addr) (G : Cx) (D : Addr) (h : Heap) (ys : List PyData) : Prop where
  fs : FS env bad G h
  acc : ∃ vs n, h.get? D = some { cls := .type "list", data := .seq (List.toArray vs) n } ∧ Rps (cut h bad) vs ys
  dbad : D ∈ bad
  dne : ¬ Own env D

theorem CS.move {env : Env} {bad bad' : List Addr} {G G' : Cx} {D : Addr} {h h' : Heap} {ys : List PyData} (C : CS env bad G D h ys) (F : FS env bad' G' h') (u : Up (cut h bad) (cut h' bad')) (kd : ∀ o, h.get? D = some o → h'.get? D = some o) (hd : D ∈ bad') : CS env bad' G' D h' ys :=
  ⟨F, let ⟨vs, n, e, r⟩ := C.acc; ⟨vs, n, kd _ e, r.up u⟩, hd, C.dne⟩
theorem CS.up {env : Env} {bad : List Addr} {G : Cx} {D : Addr} {h h' : Heap} {ys : List PyData} (C : CS env bad G D h ys) (u : Up h h') : CS env bad G D h' ys :=
  C.move (C.fs.up u) (u.keep bad).cut (fun o e => u D o e) C.dbad
theorem CS.say {env : Env} {bad : List Addr} {G G' : Cx} {D : Addr} {h : Heap} {ys : List PyData} (C : CS env bad G D h ys) (hs : ∀ x d, G'.lookup x = some d → G.lookup x = some d) : CS env bad G' D h ys :=
  ⟨C.fs.say hs, C.acc, C.dbad, C.dne⟩

section
variable {W : Wd} {A : Around} {env : Env} {G : Cx} {elt : Expr} {gens : List Comprehension} {scope : Scope} {pos : Pos} {D : Addr} {md : List Addr} {k : Nat}

def Rest (W : Wd) (A : Around) (env : Env) (elt : Expr) (gens : List Comprehension) (scope : Scope) (pos : Pos) (D : Addr) (md : List Addr) (k : Nat) (G : Cx) (outs : List PyData) : Prop :=
  ∀ (bad : List Addr) (s : Shared) (ys : List PyData) (Q : Unit → Shared → Prop) (E : Value → Shared → Prop), CS env bad G D s.heap ys → Bs W bad s.heap → ys.length + outs.length ≤ sizeLine → (∀ b ∈ md, b ∈ bad) →
    (∀ h' tk, CS env bad G D h' (ys ++ outs) → Keep md s.heap h' → Q () { s with heap := h', toks := tk }) → wpRest W A elt gens scope pos k (.ref D) env (Q ()) E s
def Body (W : Wd) (A : Around) (env : Env) (elt : Expr) (gens : List Comprehension) (scope : Scope) (pos : Pos) (D : Addr) (md : List Addr) (ifs : List Expr) (k : Nat) (G : Cx) (outs : List PyData) : Prop :=
  ∀ (bad : List Addr) (s : Shared) (ys : List PyData) (Q : Unit → Shared → Prop) (E : Value → Shared → Prop), CS env bad G D s.heap ys → Bs W bad s.heap → ys.length + outs.length ≤ sizeLine → (∀ b ∈ md, b ∈ bad) →
    (∀ h' tk, CS env bad G D h' (ys ++ outs) → Keep md s.heap h' → Q () { s with heap := h', toks := tk }) →
    wpAny (model W.prog W.w) A (testsOf ifs env) (fun ok s₁ => if ok = true then wpRest W A elt gens scope pos k (.ref D) env (Q ()) E s₁ else Q () s₁) E s

theorem body0 {outs : List PyData} (h : Rest W A env elt gens scope pos D md k G outs) : Body W A env elt gens scope pos D md [] k G outs := by
  intro bad s ys Q E C B hz hm hQ
  refine wpAny_tests_nil ?_
  exact h bad s ys Q E C B hz hm hQ
theorem body1 {c : Expr} {b : Bool} {outs : List PyData} (hc : Et W A env G c b) (h : b = true → Rest W A env elt gens scope pos D md k G outs) : Body W A env elt gens scope pos D md [c] k G (if b then outs else []) := by
  intro bad s ys Q E C B hz hm hQ
  refine wpAny_tests_one (hc bad s _ _ C.fs B fun h' tk u => ?_)
  cases b with
  | true => exact h rfl bad _ ys Q E (C.up u) (B.up u) hz hm fun h'' tk' C' K => hQ h'' tk' C' ((u.keep md).trans K)
  | false => exact hQ h' tk (by rw [if_neg (by simp), List.append_nil]; exact C.up u) (u.keep md)

theorem rest_last {d : PyData} (hD : D ∈ md) (hn : gens[k + 1]? = none) (h : Ev W A env G elt d) : Rest W A env elt gens scope pos D md k G [d] := by
  intro bad s ys Q E C B hz hm hQ
  unfold wpRest
  rw [hn]
  refine h bad s C.fs B _ _ fun v h' tk u r => ?_
  have C' := C.up u
  obtain ⟨vs, n, e, rs⟩ := C'.acc
  have hl := rs.length
  refine wpAny_list_append_plain ⟨n, e⟩ (fun h'' hp hs => hQ h'' tk ?_ ?_) (by simp at hz ⊢; omega)
  · obtain ⟨n', e'⟩ := hp
    have kc := (Keep.of_same C'.dbad hs).cut
    refine ⟨C'.fs.move kc (fun b o hb e => (hs.2 b fun q => C.dne (q ▸ hb)).trans e) (fun b hb => ?_) C'.fs.lbad fun y c e => (C'.fs.cbad y c e).1, ⟨vs ++ [v], n', by simpa using e', (rs.append (.one r)).up kc⟩, C.dbad, C.dne⟩
    by_cases hbD : b = D
    · subst hbD; exact ⟨_, e'⟩
    · obtain ⟨o, eo⟩ := C'.fs.stands b hb; exact ⟨o, (hs.2 b hbD).trans eo⟩
  · exact (u.keep md).trans (Keep.of_same hD hs)

theorem codeAny_start {target iter : Expr} {ifs : List Expr} {it acc : Value} {R : Result → Shared → Prop} {s : Shared} (hk : gens[k]? = some ⟨target, iter, ifs, 0⟩)
    (h0 : codeAny (model W.prog W.w) A (.compLoop (.ListComp elt gens scope pos) k it acc env) R s)
    (h : ∀ E, wpAny (model W.prog W.w) A (pyIter it) (fun it' s' => codeAny (model W.prog W.w) A (.compLoop (.ListComp elt gens scope pos) k it' acc env) R s') E s) :
    codeAny (model W.prog W.w) A (.compStart (.ListComp elt gens scope pos) k it acc env) R s := by
  refine codeAny_of_tree ?_
  show wpAny _ _ ((compStart (.ListComp elt gens scope pos) k it acc env).onRaise (fun x => do noteFrame x env; standAt theWindowsPlace)) _ _ s
  refine wpAny_notedAt ?_
  unfold compStart
  have hc : (clausesOf (.ListComp elt gens scope pos))[k]? = some ⟨target, iter, ifs, 0⟩ := hk
  simp only [hc, Option.elim_some]
  rw [if_neg (by decide)]
  refine wpAny_bind (wpAny_askSetting (wpAny_ite ?_))
  split
  · first
      | exact wpAny_bind (wpAny_pure (wpAny_pure (And.intro rfl h0)))
      | exact wpAny_pure (And.intro rfl h0)
  · first
      | exact wpAny_bind (wpAny_rule (wpAny_bind (wpAny_standAt (wpAny_bind (wpAny_mono (h _) (fun it' s' h' => wpAny_pure (And.intro rfl h')) fun _ _ x => x)))))
      | (refine wpAny_bind (wpAny_rule ?_); show wpAny _ _ (standAt iter.pos >>= _) _ _ s; exact wpAny_bind (wpAny_standAt (wpAny_bind (wpAny_mono (h _) (fun it' s' h' => wpAny_pure (And.intro rfl h')) fun _ _ x => x))))

theorem comp_loop {α : Type} {xs : List α} {enc : α → PyData} {outs : α → List PyData} {Gx : α → Cx} {target iter : Expr} {ifs : List Expr} {bad own : List Addr} {I : Addr} {St : Nat → Heap → Prop} {R : Result → Shared → Prop} {s : Shared} {ys : List PyData}
    (hk : gens[k]? = some ⟨target, iter, ifs, 0⟩) (hp : plainNext gens k) (It : Itr W A target (own ++ bad) own I (xs.map enc) St) (hdis : ∀ b ∈ own, b ∉ bad) (hmd : ∀ b ∈ md, b ∈ bad)
    (asn : ∀ x ∈ xs, As W A env G target (enc x) (Gx x) md) (fg : ∀ x ∈ xs, ∀ y d, G.lookup y = some d → (Gx x).lookup y = some d)
    (body : ∀ x ∈ xs, Body W A env elt gens scope pos D md ifs k (Gx x) (outs x))
    (C : CS env bad G D s.heap ys) (C' : CS env (own ++ bad) G D s.heap ys) (B : Bs W (own ++ bad) s.heap) (st : St 0 s.heap) (hz : ys.length + (xs.flatMap outs).length ≤ sizeLine)
    (hR : ∀ h' tk, CS env bad G D h' (ys ++ xs.flatMap outs) → Keep (own ++ md) s.heap h' → R (.ok .next) { s with heap := h', toks := tk }) :
    codeAny (model W.prog W.w) A (.compLoop (.ListComp elt gens scope pos) k (.ref I) (.ref D) env) R s := by
  have hmd' : ∀ b ∈ own ++ md, b ∈ own ++ bad := fun b hb => (List.mem_append.mp hb).elim (fun q => List.mem_append.mpr (.inl q)) fun q => List.mem_append.mpr (.inr (hmd b q))
  refine codeAny_comp hk hp (fun n s' => ∃ h' tk j, s' = { s with heap := h', toks := tk } ∧ CS env (own ++ bad) G D h' (ys ++ (xs.take j).flatMap outs) ∧ St j h' ∧ Keep (own ++ md) s.heap h' ∧ j ≤ xs.length ∧ n = xs.length + 1 - j) ?_ (xs.length + 1)
    ⟨s.heap, s.toks, 0, rfl, by simpa using C', st, Keep.refl _ _, Nat.zero_le _, rfl⟩
  rintro n s' ⟨h, tk, j, rfl, Cj, Sj, Kj, hj, rfl⟩ E
  have Bj : Bs W (own ++ bad) h := B.keep (Kj.more hmd')
  by_cases hlt : j < xs.length
  · have hxj : xs[j]? = some xs[j] := List.getElem?_eq_getElem hlt
    have hmem : xs[j] ∈ xs := List.getElem_mem hlt
    refine wpAny_mono (It.item j (enc xs[j]) _ (fun v s₂ => wpAny (model W.prog W.w) A (assign target env v) (fun _ s₃ => wpAny (model W.prog W.w) A (testsOf ifs env) (fun ok s₄ => if ok = true then wpRest W A elt gens scope pos k (.ref D) env (fun s₅ => ∃ m, m < xs.length + 1 - j ∧
        ∃ h' tk j, s₅ = { s with heap := h', toks := tk } ∧ CS env (own ++ bad) G D h' (ys ++ (xs.take j).flatMap outs) ∧ St j h' ∧ Keep (own ++ md) s.heap h' ∧ j ≤ xs.length ∧ m = xs.length + 1 - j) E s₄ else ∃ m, m < xs.length + 1 - j ∧
        ∃ h' tk j, s₄ = { s with heap := h', toks := tk } ∧ CS env (own ++ bad) G D h' (ys ++ (xs.take j).flatMap outs) ∧ St j h' ∧ Keep (own ++ md) s.heap h' ∧ j ≤ xs.length ∧ m = xs.length + 1 - j) E s₃) E s₂) E (by simp [hxj]) Sj Cj.fs.stands fun v h₁ tk₁ K₁ S₁ r₁ => ?_) (fun r s₁ hr => ?_) fun _ _ e => e
    · have kc₁ := (K₁.more (fun b hb => List.mem_append.mpr (.inl hb)) : Keep (own ++ bad) h h₁)
      have F₁ : FS env (own ++ bad) G h₁ := Cj.fs.move kc₁.cut (fun b o hb e => K₁ b o (fun q => hdis b q (C.fs.ownBad hb)) e) (fun b hb => by
          rcases List.mem_append.mp hb with q | q
          · exact It.live _ _ S₁ b q
          · obtain ⟨o, e⟩ := Cj.fs.stands b hb
            exact ⟨o, K₁ b o (fun q' => hdis b q' q) e⟩) Cj.fs.lbad fun y c e => (Cj.fs.cbad y c e).1
      have C₁ : CS env (own ++ bad) G D h₁ (ys ++ (xs.take j).flatMap outs) := Cj.move F₁ kc₁.cut (fun o e => K₁ D o (fun q => hdis D q C.dbad) e) Cj.dbad
      refine asn _ hmem (own ++ bad) _ v _ _ F₁ r₁ fun h₂ tk₂ F₂ K₂ KF => ?_
      have hmdbad : ∀ b ∈ md, b ∈ own ++ bad := fun b hb => List.mem_append.mpr (.inr (hmd b hb))
      have kc₂ := (K₂.more hmdbad : Keep (own ++ bad) h₁ h₂)
      have nOwn : ∀ b ∈ own, ¬ Own env b := fun b hb q => hdis b hb (C.fs.ownBad q)
      have C₂ : CS env (own ++ bad) (Gx xs[j]) D h₂ (ys ++ (xs.take j).flatMap outs) := C₁.move F₂ kc₂.cut (fun o e => KF D o C.dne e) Cj.dbad
      have S₂ : St (j + 1) h₂ := It.frame _ _ _ S₁ (fun b o hb e => KF b o (nOwn b hb) e) kc₂
      have hfl : (xs.take (j + 1)).flatMap outs = (xs.take j).flatMap outs ++ outs xs[j] := by rw [List.take_add_one, hxj, List.flatMap_append]; simp
      have hlen : ((xs.take (j + 1)).flatMap outs).length ≤ (xs.flatMap outs).length := by
        have : xs.flatMap outs = (xs.take (j + 1)).flatMap outs ++ (xs.drop (j + 1)).flatMap outs := by rw [← List.flatMap_append, List.take_append_drop]
        rw [this, List.length_append]; exact Nat.le_add_right _ _
      have K₀₂ : Keep (own ++ md) s.heap h₂ := (Kj.trans (K₁.more fun b hb => List.mem_append.mpr (.inl hb))).trans (K₂.more fun b hb => List.mem_append.mpr (.inr hb))
      refine body _ hmem (own ++ bad) _ _ (fun _ s₅ => ∃ m, m < xs.length + 1 - j ∧ ∃ h' tk j, s₅ = { s with heap := h', toks := tk } ∧ CS env (own ++ bad) G D h' (ys ++ (xs.take j).flatMap outs) ∧ St j h' ∧ Keep (own ++ md) s.heap h' ∧ j ≤ xs.length ∧ m = xs.length + 1 - j) E C₂ ((B.keep (Kj.more hmd')).keep (kc₁.trans kc₂)) ?_ hmdbad fun h₃ tk₃ C₃ K₃ => ?_
      · rw [hfl, List.length_append] at hlen
        rw [List.length_append]; omega
      · refine ⟨xs.length + 1 - (j + 1), by omega, h₃, tk₃, j + 1, rfl, ?_, It.frame _ _ _ S₂ (fun b o hb e => K₃ b o (fun q => hdis b hb (hmd b q)) e) (K₃.more hmdbad), K₀₂.trans (K₃.more fun b hb => List.mem_append.mpr (.inr hb)), hlt, rfl⟩
        have := C₃.say (fg _ hmem)
        rw [List.append_assoc, ← hfl] at this
        exact this
    · obtain ⟨v, rfl, h⟩ := hr
      exact h
  · have hjn : j = xs.length := by omega
    subst hjn
    refine It.done _ _ _ (by simpa using Sj) fun h₁ tk₁ K₁ => ?_
    refine hR h₁ tk₁ ?_ (Kj.trans (K₁.more fun b hb => List.mem_append.mpr (.inl hb)))
    have u : Up (cut h (own ++ bad)) (cut h₁ bad) := fun b o e => by
      obtain ⟨e1, e2⟩ := cut_get e
      exact hideAll_get bad (K₁ b o (fun q => e2 (List.mem_append.mpr (.inl q))) e1) fun q => e2 (List.mem_append.mpr (.inr q))
    have := Cj.move (Cj.fs.move u (fun b o hb e => K₁ b o (fun q => hdis b q (C.fs.ownBad hb)) e) (fun b hb => by
      obtain ⟨o, e⟩ := Cj.fs.stands b (List.mem_append.mpr (.inr hb))
      exact ⟨o, K₁ b o (fun q => hdis b q hb) e⟩) C.fs.lbad fun y c e => (C.fs.cbad y c e).1) u (fun o e => K₁ D o (fun q => hdis D q C.dbad) e) C.dbad
    rw [List.take_of_length_le (Nat.le_refl _)] at this
    exact this

theorem FS.grow {env : Env} {bad own : List Addr} {G : Cx} {h h' : Heap} (F : FS env bad G h) (u : Up h h') (hf : ∀ b ∈ own, h.get? b = none) (lv : ∀ b ∈ own, ∃ o, h'.get? b = some o) : FS env (own ++ bad) G h' :=
  F.move ((cut_add hf).trans (u.keep _).cut) (fun b o _ e => u b o e) (fun b hb => (List.mem_append.mp hb).elim (lv b) fun q => let ⟨o, e⟩ := F.stands b q; ⟨o, u b o e⟩)
    (List.mem_append.mpr (.inr F.lbad)) fun y c e => List.mem_append.mpr (.inr (F.cbad y c e).1)

theorem rest_inner {α : Type} {xs : List α} {enc : α → PyData} {outs : α → List PyData} {Gx : α → Cx} {t' i' : Expr} {ifs' : List Expr} (hn : gens[k + 1]? = some ⟨t', i', ifs', 0⟩) (hp : plainNext gens (k + 1))
    (hi : EvI W A env G t' i' (xs.map enc)) (asn : ∀ x ∈ xs, As W A env G t' (enc x) (Gx x) md) (fg : ∀ x ∈ xs, ∀ y d, G.lookup y = some d → (Gx x).lookup y = some d)
    (body : ∀ x ∈ xs, Body W A env elt gens scope pos D md ifs' (k + 1) (Gx x) (outs x)) : Rest W A env elt gens scope pos D md k G (xs.flatMap outs) := by
  intro bad s ys Q E C B hz hm hQ
  unfold wpRest
  rw [hn]
  refine hi bad s _ _ C.fs B fun I own St h' tk u hf st lv It => ?_
  refine wpAny_runOwn ?_
  show codeAny _ A _ _ _
  have hdis : ∀ b ∈ own, b ∉ bad := fun b hb q => by
    obtain ⟨o, e⟩ := C.fs.stands b q
    rw [hf b hb] at e; cases e
  have It' := It (own ++ bad) (fun b hb => List.mem_append.mpr (.inl hb)) (fun b hb => List.mem_append.mpr (.inr hb)) fun b hb => (List.mem_append.mp hb).elim (fun q => .inr (.inl q)) .inl
  have uc : Up (cut s.heap bad) (cut h' (own ++ bad)) := (cut_add hf).trans (u.keep _).cut
  have key : codeAny (model W.prog W.w) A (.compLoop (.ListComp elt gens scope pos) (k + 1) (.ref I) (.ref D) env) (fun r s' => match r with | .ok _ => Q () s' | .error e => cameBackBy (model W.prog W.w) A env E e s') { s with heap := h', toks := tk } :=
    comp_loop hn hp It' hdis hm asn fg body (C.up u) (C.move (C.fs.grow u hf lv) uc (fun o e => u D o e) (List.mem_append.mpr (.inr C.dbad))) (B.move uc) st hz
      fun h'' tk' C'' K => hQ h'' tk' C'' (K.fresh' hf u)
  exact codeAny_start hn key fun E' => It'.self 0 _ _ _ st key
end
end Mine

namespace Mine

def closOf (cells : List (Str × Addr)) : List (Str × NameKind) → List (Str × Addr) → List (Str × Addr)
  | [], acc => acc
  | (n, k) :: r, acc => closOf cells r (if k == .free then (n, (cells.lookup n).getD 0) :: acc else acc)

theorem closureFor_eq {scope : Scope} {env : Env} (hf : ∀ x ∈ scope.names, x.2 = .free → (env.cells.lookup x.1).isSome = true) : closureFor scope env = pure (closOf env.cells scope.names []) := by
  unfold closureFor
  have key : ∀ (names : List (Str × NameKind)) (acc : List (Str × Addr)), (∀ x ∈ names, x.2 = .free → (env.cells.lookup x.1).isSome = true) →
      (forIn names acc fun (x : Str × NameKind) (r : List (Str × Addr)) => if (x.2 == NameKind.free) = true then (do let a ← cellOf env x.1; pure (ForInStep.yield ((x.1, a) :: r))) else (pure (ForInStep.yield r) : Sem _)) = pure (closOf env.cells names acc) := by
    intro names
    induction names with
    | nil => intro acc _; rfl
    | cons y r ih =>
      intro acc h
      obtain ⟨n, k⟩ := y
      rw [List.forIn_cons]
      have hr := fun x hx => h x (List.mem_cons_of_mem _ hx)
      by_cases hk : (k == NameKind.free) = true
      · obtain ⟨a, ha⟩ := Option.isSome_iff_exists.mp (h (n, k) List.mem_cons_self (by simpa using hk))
        simp only at ha
        simp only [hk, if_true]
        unfold cellOf
        simp only [ha]
        rw [closOf, if_pos hk, ha]
        exact ih _ hr
      · simp only [hk]
        rw [closOf, if_neg hk]
        exact ih _ hr
  have := key scope.names [] hf
  exact congrArg (fun t => t >>= pure) this

def compOk (scope : Scope) (env : Env) : Bool := scope.kind == .function && scope.names.all fun p => scope.names.lookup p.1 == some p.2 &&
  (p.2 != .free || ((env.kindOf p.1 == some .cell || env.kindOf p.1 == some .free) && (env.cells.lookup p.1).isSome))

def compE (scope : Scope) (env : Env) (C : Addr) : Env :=
  { scope := relabel scope env, locals := C, globals := env.globals, cells := cellsFrom (C + 1) scope.names (closOf env.cells scope.names []), qual := env.qual, func := none, code := env.code, frame := env.frame, builtins := env.builtins }
def mdOf (scope : Scope) (C D : Addr) : List Addr := C :: D :: (cellsFrom (C + 1) scope.names []).map (·.2)
def down (scope : Scope) (G : Cx) : Cx := G.filter fun p => scope.names.lookup p.1 == some .free

theorem down_lookup {scope : Scope} {x : Str} {d : PyData} : ∀ {G : Cx}, (down scope G).lookup x = some d → scope.names.lookup x = some .free ∧ G.lookup x = some d
  | [], h => by simp [down] at h
  | (n, e) :: G, h => by
    unfold down at h
    rw [List.filter_cons] at h
    by_cases hn : (scope.names.lookup n == some NameKind.free) = true
    · simp only [hn, if_true] at h
      rw [cx_cons] at h ⊢
      by_cases hx : x = n
      · subst hx; simp only [if_true] at h ⊢; exact ⟨by simpa using hn, h⟩
      · simp only [hx, if_false] at h ⊢; exact down_lookup h
    · simp only [hn] at h
      have ih := down_lookup (G := G) h
      refine ⟨ih.1, ?_⟩
      rw [cx_cons, if_neg (fun q => hn (by rw [← q, ih.1]; simp)), ih.2]

theorem closOf_lookup {cells : List (Str × Addr)} {x : Str} : ∀ (names : List (Str × NameKind)) (acc : List (Str × Addr)),
    ((x, NameKind.free) ∈ names → (closOf cells names acc).lookup x = some ((cells.lookup x).getD 0)) ∧ ((x, NameKind.free) ∉ names → (closOf cells names acc).lookup x = acc.lookup x)
  | [], acc => ⟨fun h => (nomatch h), fun _ => rfl⟩
  | (n, k) :: r, acc => by
    have ih := closOf_lookup (cells := cells) (x := x) r (if k == .free then (n, (cells.lookup n).getD 0) :: acc else acc)
    rw [closOf]
    by_cases hr : (x, NameKind.free) ∈ r
    · exact ⟨fun _ => ih.1 hr, fun h => absurd (List.mem_cons_of_mem _ hr) h⟩
    · rw [ih.2 hr]
      by_cases hk : k = .free
      · subst hk
        simp only [beq_self_eq_true, if_true]
        by_cases hx : x = n
        · subst hx
          exact ⟨fun _ => by rw [List.lookup_cons]; simp, fun h => absurd List.mem_cons_self h⟩
        · refine ⟨fun h => ?_, fun _ => ?_⟩
          · rcases List.mem_cons.mp h with q | q
            · exact absurd (Prod.mk.inj q).1 hx
            · exact absurd q hr
          · rw [List.lookup_cons, beq_eq_false_iff_ne.mpr hx]
      · have hk' : (k == NameKind.free) = false := by simpa using hk
        simp only [hk', Bool.false_eq_true, if_false]
        refine ⟨fun h => ?_, fun _ => by first | rfl | trivial⟩
        rcases List.mem_cons.mp h with q | q
        · exact absurd (Prod.mk.inj q).2.symm hk
        · exact absurd q hr

theorem cellsFrom_app : ∀ (names : List (Str × NameKind)) (n : Nat) (acc acc' : List (Str × Addr)), cellsFrom n names (acc ++ acc') = cellsFrom n names acc ++ acc'
  | [], _, _, _ => rfl
  | (x, k) :: r, n, acc, acc' => by
    unfold cellsFrom
    split
    · exact cellsFrom_app r (n + 1) ((x, n) :: acc) acc'
    · exact cellsFrom_app r n acc acc'
theorem cellsFrom_cell {x : Str} {c : Addr} : ∀ (names : List (Str × NameKind)) (n : Nat) (acc : List (Str × Addr)), (x, c) ∈ cellsFrom n names acc → (x, c) ∈ acc ∨ (x, NameKind.cell) ∈ names
  | [], _, _, h => .inl h
  | (y, k) :: r, n, acc, h => by
    unfold cellsFrom at h
    split at h
    · rename_i hk
      rcases cellsFrom_cell r _ _ h with q | q
      · rcases List.mem_cons.mp q with q | q
        · cases q; exact .inr (by rw [show k = NameKind.cell by simpa using hk]; exact List.mem_cons_self)
        · exact .inl q
      · exact .inr (List.mem_cons_of_mem _ q)
    · exact (cellsFrom_cell r _ _ h).imp id (List.mem_cons_of_mem _)
theorem lookup_app {α : Type} {x : Str} : ∀ (l l' : List (Str × α)), (l ++ l').lookup x = (l.lookup x).or (l'.lookup x)
  | [], _ => by simp
  | (k, v) :: r, l' => by
    rw [List.cons_append, List.lookup_cons, List.lookup_cons]
    cases x == k
    · exact lookup_app r l'
    · rfl

theorem lookup_map_val {α β : Type} {x : Str} {g : Str → α → β} : ∀ (l : List (Str × α)), (l.map fun p => (p.1, g p.1 p.2)).lookup x = (l.lookup x).map (g x)
  | [] => rfl
  | (n, k) :: r => by
    rw [List.map_cons, List.lookup_cons, List.lookup_cons]
    cases hx : x == n
    · exact lookup_map_val r
    · rw [eq_of_beq hx]; rfl
theorem relabel_lookup {scope : Scope} {env : Env} {x : Str} : (relabel scope env).names.lookup x = (scope.names.lookup x).map fun k => if (k == .free && env.scope.kind == .function && env.kindOf x == some .cell) then .cell else k := by
  have e : (relabel scope env).names = scope.names.map fun p => (p.1, (fun y k => if (k == NameKind.free && env.scope.kind == .function && env.kindOf y == some .cell) then NameKind.cell else k) p.1 p.2) := by
    unfold relabel
    simp only
    apply List.map_congr_left
    intro p _
    obtain ⟨n, k⟩ := p
    simp only
    split <;> rfl
  rw [e]
  exact lookup_map_val (g := fun y k => if (k == NameKind.free && env.scope.kind == .function && env.kindOf y == some .cell) then NameKind.cell else k) scope.names

section
variable {scope : Scope} {env : Env}
theorem compOk_kind (ok : compOk scope env = true) : scope.kind = .function := by
  have := (Bool.and_eq_true_iff.mp ok).1
  simpa using this
theorem compOk_self (ok : compOk scope env = true) {p : Str × NameKind} (hp : p ∈ scope.names) : scope.names.lookup p.1 = some p.2 := by
  have := (Bool.and_eq_true_iff.mp (List.all_eq_true.mp (Bool.and_eq_true_iff.mp ok).2 p hp)).1
  simpa using this
theorem compOk_free (ok : compOk scope env = true) {x : Str} (hp : (x, NameKind.free) ∈ scope.names) : (env.kindOf x = some .cell ∨ env.kindOf x = some .free) ∧ (env.cells.lookup x).isSome = true := by
  have := (Bool.and_eq_true_iff.mp (List.all_eq_true.mp (Bool.and_eq_true_iff.mp ok).2 _ hp)).2
  simpa using this
/-- the cells of a comprehension's frame: its own, or those it took from without -/
theorem compE_cells (ok : compOk scope env = true) {C : Addr} {x : Str} {c : Addr} (h : (compE scope env C).cells.lookup x = some c) :
    (x, c) ∈ cellsFrom (C + 1) scope.names [] ∨ ((x, NameKind.free) ∈ scope.names ∧ env.cells.lookup x = some c) := by
  unfold compE at h
  simp only at h
  have e := cellsFrom_app scope.names (C + 1) [] (closOf env.cells scope.names [])
  rw [List.nil_append] at e
  rw [e, lookup_app] at h
  cases h1 : (cellsFrom (C + 1) scope.names []).lookup x with
  | some c' => rw [h1] at h; simp at h; subst h; exact .inl (mem_of_lookup h1)
  | none =>
    rw [h1] at h
    simp only [Option.none_or] at h
    by_cases hf : (x, NameKind.free) ∈ scope.names
    · rw [(closOf_lookup scope.names []).1 hf] at h
      obtain ⟨a, ha⟩ := Option.isSome_iff_exists.mp (compOk_free ok hf).2
      rw [ha] at h ⊢
      exact .inr ⟨hf, by simpa using h⟩
    · rw [(closOf_lookup scope.names []).2 hf] at h; cases h
theorem compE_free (ok : compOk scope env = true) {C : Addr} {x : Str} (hf : (x, NameKind.free) ∈ scope.names) : (compE scope env C).cells.lookup x = env.cells.lookup x := by
  unfold compE
  simp only
  have e := cellsFrom_app scope.names (C + 1) [] (closOf env.cells scope.names [])
  rw [List.nil_append] at e
  rw [e, lookup_app]
  cases h1 : (cellsFrom (C + 1) scope.names []).lookup x with
  | some c' =>
    rcases cellsFrom_cell _ _ _ (mem_of_lookup h1) with q | q
    · exact nomatch q
    · have := compOk_self ok hf; rw [compOk_self ok q] at this; cases this
  | none =>
    rw [Option.none_or, (closOf_lookup scope.names []).1 hf]
    obtain ⟨a, ha⟩ := Option.isSome_iff_exists.mp (compOk_free ok hf).2
    rw [ha]; rfl

theorem fs_compE {bad bad' : List Addr} {G : Cx} {h₀ h₃ : Heap} {C : Addr} (ok : compOk scope env = true) (F : FS env bad G h₀) (u : Up h₀ h₃) (uc : Up (cut h₀ bad) (cut h₃ bad')) (st : ∀ b ∈ bad', ∃ o, h₃.get? b = some o)
    (hbad : ∀ b ∈ bad, b ∈ bad') (hCb : C ∈ bad') (hC : h₃.Ns C fun _ => none) (hcells : ∀ n c, (n, c) ∈ cellsFrom (C + 1) scope.names [] → h₃.IsCell c none ∧ h₀.get? c = none ∧ c ∈ bad')
    (apart : (cellsFrom (C + 1) scope.names []).Pairwise fun x y => x.2 ≠ y.2) : FS (compE scope env C) bad' (down scope G) h₃ where
  stands := st
  lbad := hCb
  cbad := fun y c e => by
    rcases compE_cells ok e with q | ⟨_, q⟩
    · exact ⟨(hcells y c q).2.2, _, (hcells y c q).1⟩
    · obtain ⟨h1, v, h2⟩ := F.cbad y c q
      exact ⟨hbad c h1, v, h2.keeps u⟩
  inj := fun x y c ex ey => by
    rcases compE_cells ok ex with q | ⟨_, q⟩ <;> rcases compE_cells ok ey with q' | ⟨_, q'⟩
    · exact name_of_addr apart q q'
    · obtain ⟨_, _, o, e1, _⟩ := F.cbad y c q'
      rw [(hcells x c q).2.1] at e1; cases e1
    · obtain ⟨_, _, o, e1, _⟩ := F.cbad x c q
      rw [(hcells y c q').2.1] at e1; cases e1
    · exact F.inj x y c q q'
  loc := ⟨_, hC, fun x d e k => by
    have hf := (down_lookup e).1
    have : (relabel scope env).names.lookup x = some .local := k
    rw [relabel_lookup, hf] at this
    simp only [Option.map_some, Option.some.injEq] at this
    split at this <;> cases this⟩
  cel := fun x d e _ => by
    obtain ⟨hf, hx⟩ := down_lookup e
    have hm := mem_of_lookup hf
    obtain ⟨c, v, e1, e2, e3⟩ := F.cel x d hx (compOk_free ok hm).1
    exact ⟨c, v, (compE_free ok hm).trans e1, e2.keeps u, e3.up uc⟩
end

theorem wp_newCompEnv {M : Model} {A : Around} {E : Value → Shared → Prop} {s : Shared} {scope : Scope} {globals : Addr} {cl : List (Str × Addr)} {qual : Str} {env : Env} {Q : Env → Shared → Prop}
    (hQ : Q { scope := scope, locals := s.heap.objs.size, globals := globals, cells := cellsFrom (s.heap.objs.size + 1) scope.names cl, qual := qual, func := none, code := env.code, frame := env.frame, builtins := env.builtins }
      { s with heap := pushCells (s.heap.push { cls := .type "dict", data := .dict #[] }) scope.names }) :
    wpAny M A (newFunctionEnv scope globals cl [] qual none .none (some env)) Q E s := by
  simp only [newFunctionEnv, Option.isSome_some, if_true]
  refine wpAny_bind (wpAny_alloc ?_)
  refine wpAny_bind (wpAny_layCells _ (fun name kind cells => by cases hkc : kind == NameKind.cell <;> simp [hkc]) _ _ _ _ ?_)
  rw [show ({ s with heap := s.heap.push { cls := .type "dict", data := .dict #[] } } : Shared).heap.objs.size = s.heap.objs.size + 1 from Heap.size_push ..]
  refine wpAny_bind ?_
  rw [List.forIn_nil]
  exact wpAny_pure (wpAny_pure hQ)

theorem pushCells_size : ∀ (names : List (Str × NameKind)) (h : Heap), h.objs.size ≤ (pushCells h names).objs.size
  | [], _ => Nat.le_refl _
  | (_, k) :: r, h => by
    unfold pushCells
    split
    · exact Nat.le_trans (by rw [Heap.size_push]; omega) (pushCells_size r _)
    · exact pushCells_size r h

section
variable {W : Wd} {A : Around} {env : Env} {G : Cx} {elt target iter : Expr} {ifs : List Expr} {gs : List Comprehension} {scope : Scope} {pos : Pos}

theorem Up.trans' {h h' h'' : Heap} {C : Addr} (u : Up h h') (fC : h.get? C = none) (hs : Heap.SameBut C h' h'') : Up h h'' := fun b o e => (hs.2 b fun q => by rw [q, fC] at e; cases e).trans (u b o e)
/-- a comprehension, up to the end of its outer loop -/
theorem comp_core {α : Type} {xs : List α} {enc : α → PyData} {outs : α → List PyData} {Gx : α → Cx} {bad : List Addr} {s : Shared} {E : Value → Shared → Prop} {RR : Value → Addr → Result → Shared → Prop}
    (ok : compOk scope env = true) (hp : plainNext (⟨target, iter, ifs, 0⟩ :: gs) 0) (hi : EvI W A env G target iter (xs.map enc))
    (asn : ∀ C D, ∀ x ∈ xs, As W A (compE scope env C) (down scope G) target (enc x) (Gx x) (mdOf scope C D))
    (fg : ∀ x ∈ xs, ∀ y d, (down scope G).lookup y = some d → (Gx x).lookup y = some d)
    (body : ∀ C D, ∀ x ∈ xs, Body W A (compE scope env C) elt (⟨target, iter, ifs, 0⟩ :: gs) scope pos D (mdOf scope C D) ifs 0 (Gx x) (outs x))
    (hz : (xs.flatMap outs).length ≤ sizeLine) (F : FS env bad G s.heap) (B : Bs W bad s.heap)
    (hR : ∀ D C h' tk, Up s.heap h' → s.heap.get? D = none → s.heap.get? C = none → (∃ m, h'.Ns C m) → C ≠ D → Rp (cut h' (C :: bad)) (.ref D) (.list (xs.flatMap outs)) → RR (.ref D) C (.ok .next) { s with heap := h', toks := tk }) :
    wpAny (model W.prog W.w) A (eval iter env) (fun x s₁ => wpAny (model W.prog W.w) A (pyIter x) (fun it s₂ => wpAny (model W.prog W.w) A (newList []) (fun acc s₃ =>
      wpAny (model W.prog W.w) A (newFunctionEnv scope env.globals (closOf env.cells scope.names []) [] env.qual none .none (some env)) (fun cenv s₄ =>
        codeAny (model W.prog W.w) A (.compStart (.ListComp elt (⟨target, iter, ifs, 0⟩ :: gs) scope pos) 0 it acc { cenv with scope := relabel scope env }) (RR acc cenv.locals) s₄) E s₃) E s₂) E s₁) E s := by
  refine hi bad s _ _ F B fun I own St h₁ tk u hf st lv It => ?_
  refine wpAny_newObj_type (wp_newCompEnv ?_)
  dsimp only
  have hsz2 : (h₁.push { cls := .type "list", dict := none, data := .seq (List.toArray ([] : List Value)) }).objs.size = h₁.objs.size + 1 := Heap.size_push ..
  generalize hH2 : h₁.push { cls := .type "list", dict := none, data := .seq (List.toArray ([] : List Value)) } = H2 at hsz2 ⊢
  generalize hH3 : H2.push { cls := .type "dict", data := .dict #[] } = H3
  have hsz3 : H3.objs.size = H2.objs.size + 1 := by rw [← hH3]; exact Heap.size_push ..
  generalize hH : pushCells H3 scope.names = H
  have u2 : Up h₁ H2 := by rw [← hH2]; exact Up.push _ _
  have u3 : Up H2 H3 := by rw [← hH3]; exact Up.push _ _
  have u4 : Up H3 H := by rw [← hH]; exact pushCells_keeps _ _
  have hne : H2.objs.size ≠ h₁.objs.size := by rw [hsz2]; exact Nat.succ_ne_self _
  have uH : Up h₁ H := (u2.trans u3).trans u4
  have uS : Up s.heap H := u.trans uH
  have okc := cellsFrom_ok scope.names H3 H3.objs.size [] ⟨fun _ _ hm => (nomatch hm), List.Pairwise.nil⟩ (Nat.le_refl _)
  rw [hsz3, hH] at okc
  have fresh : ∀ b, h₁.objs.size ≤ b → s.heap.get? b = none := fun b hb => by
    cases e : s.heap.get? b with
    | none => rfl
    | some o => exact absurd (Heap.lt_size (u b o e)) (Nat.not_lt.mpr hb)
  have hD : H.get? h₁.objs.size = some { cls := .type "list", dict := none, data := .seq (List.toArray ([] : List Value)) } := u4 _ _ (u3 _ _ (by rw [← hH2]; exact Heap.get?_push_size _ rfl))
  have hC : H.Ns H2.objs.size fun _ => none := (by rw [← hH3]; exact Heap.Ns.new _ _ : H3.Ns H2.objs.size fun _ => none).keeps u4
  -- the addresses that turn
  have mdNew : ∀ b ∈ mdOf scope H2.objs.size h₁.objs.size, h₁.objs.size ≤ b ∧ ∃ o, H.get? b = some o := fun b hb => by
    unfold mdOf at hb
    rcases List.mem_cons.mp hb with rfl | hb
    · exact ⟨by rw [hsz2]; exact Nat.le_succ _, let ⟨o, _, _, e, _⟩ := hC; ⟨o, e⟩⟩
    · rcases List.mem_cons.mp hb with rfl | hb
      · exact ⟨Nat.le_refl _, _, hD⟩
      · obtain ⟨⟨n, c⟩, hm, rfl⟩ := List.mem_map.mp hb
        obtain ⟨⟨o, e, _⟩, hc⟩ := okc.empty n c hm
        exact ⟨by simp only; omega, o, e⟩
  have ownOld : ∀ b ∈ own, b < h₁.objs.size := fun b hb => let ⟨_, e⟩ := lv b hb; Heap.lt_size e
  have badOld : ∀ b ∈ bad, b < h₁.objs.size := fun b hb => (F.up u).lt hb
  have hcut : ∀ l : List Addr, (∀ b ∈ l, s.heap.get? b = none) → Up (cut s.heap bad) (cut H (l ++ bad)) := fun l hl => (cut_add hl).trans (uS.keep _).cut
  have mdF : ∀ b ∈ mdOf scope H2.objs.size h₁.objs.size, s.heap.get? b = none := fun b hb => fresh b (mdNew b hb).1
  have FS' : ∀ l : List Addr, (∀ b ∈ l, s.heap.get? b = none) → (∀ b ∈ l, ∃ o, H.get? b = some o) → (∀ b ∈ mdOf scope H2.objs.size h₁.objs.size, b ∈ l) → FS (compE scope env H2.objs.size) (l ++ bad) (down scope G) H := fun l hl hs hm =>
    fs_compE ok F uS (hcut l hl) (fun b hb => (List.mem_append.mp hb).elim (hs b) fun q => let ⟨o, e⟩ := F.stands b q; ⟨o, uS b o e⟩) (fun b hb => List.mem_append.mpr (.inr hb)) (List.mem_append.mpr (.inl (hm _ List.mem_cons_self))) hC
      (fun n c hc => have hcm := List.mem_cons_of_mem H2.objs.size (List.mem_cons_of_mem h₁.objs.size (List.mem_map.mpr ⟨(n, c), hc, rfl⟩)); ⟨(okc.empty n c hc).1, mdF c hcm, List.mem_append.mpr (.inl (hm _ hcm))⟩) okc.apart
  have F1 := FS' (mdOf scope H2.objs.size h₁.objs.size) mdF (fun b hb => (mdNew b hb).2) fun b hb => hb
  have F2 := FS' (own ++ mdOf scope H2.objs.size h₁.objs.size) (fun b hb => (List.mem_append.mp hb).elim (hf b) (mdF b)) (fun b hb => (List.mem_append.mp hb).elim (fun q => let ⟨o, e⟩ := lv b q; ⟨o, uH b o e⟩) fun q => (mdNew b q).2) fun b hb => List.mem_append.mpr (.inr hb)
  have hDm : h₁.objs.size ∈ mdOf scope H2.objs.size h₁.objs.size := List.mem_cons_of_mem _ List.mem_cons_self
  have hDne : ¬ Own (compE scope env H2.objs.size) h₁.objs.size := by
    rintro (q | ⟨y, q⟩)
    · exact hne (show h₁.objs.size = H2.objs.size from q).symm
    · rcases compE_cells ok q with q | ⟨_, q⟩
      · have := (okc.empty y _ q).2
        omega
      · obtain ⟨_, _, o, e, _⟩ := F.cbad y _ q
        exact Nat.lt_irrefl _ (Heap.lt_size (u _ _ e))
  have hacc : ∀ l : List Addr, ∃ vs n, H.get? h₁.objs.size = some { cls := .type "list", data := .seq (List.toArray vs) n } ∧ Rps (cut H l) vs [] := fun l => ⟨[], 0, hD, .nil⟩
  have C1 : CS (compE scope env H2.objs.size) (mdOf scope H2.objs.size h₁.objs.size ++ bad) (down scope G) h₁.objs.size H [] := ⟨F1, hacc _, List.mem_append.mpr (.inl hDm), hDne⟩
  rw [List.append_assoc] at F2
  have C2 : CS (compE scope env H2.objs.size) (own ++ (mdOf scope H2.objs.size h₁.objs.size ++ bad)) (down scope G) h₁.objs.size H [] := ⟨F2, hacc _, List.mem_append.mpr (.inr C1.dbad), hDne⟩
  have hdis : ∀ b ∈ own, b ∉ mdOf scope H2.objs.size h₁.objs.size ++ bad := fun b hb q => by
    rcases List.mem_append.mp q with q | q
    · exact absurd (ownOld b hb) (Nat.not_lt.mpr (mdNew b q).1)
    · obtain ⟨o, e⟩ := F.stands b q; rw [hf b hb] at e; cases e
  have It' := It (own ++ (mdOf scope H2.objs.size h₁.objs.size ++ bad)) (fun b hb => List.mem_append.mpr (.inl hb)) (fun b hb => List.mem_append.mpr (.inr (List.mem_append.mpr (.inr hb)))) fun b hb => by
    rcases List.mem_append.mp hb with q | q
    · exact .inr (.inl q)
    · rcases List.mem_append.mp q with q | q
      · exact .inr (.inr (mdNew b q).1)
      · exact .inl q
  have ucut : Up (cut s.heap bad) (cut H (own ++ (mdOf scope H2.objs.size h₁.objs.size ++ bad))) := by
    have := hcut (own ++ mdOf scope H2.objs.size h₁.objs.size) fun b hb => (List.mem_append.mp hb).elim (hf b) (mdF b)
    rwa [List.append_assoc] at this
  have stH : St 0 H := It'.frame 0 h₁ H st (fun b o _ e => uH b o e) (uH.keep _)
  have hpl := hp
  have key : codeAny (model W.prog W.w) A (.compLoop (.ListComp elt (⟨target, iter, ifs, 0⟩ :: gs) scope pos) 0 (.ref I) (.ref h₁.objs.size) (compE scope env H2.objs.size)) (RR (.ref h₁.objs.size) H2.objs.size) { s with heap := H, toks := tk } := by
    refine comp_loop (ys := []) rfl hp It' hdis (fun b hb => List.mem_append.mpr (.inl hb)) (asn _ _) fg (body _ _) C1 C2 (B.move ucut) stH (by simpa using hz) fun h' tk' C' K => ?_
    have K' : Keep (mdOf scope H2.objs.size h₁.objs.size) s.heap h' := K.fresh' hf uS
    obtain ⟨vs, n, e, r⟩ := C'.acc
    obtain ⟨m, hn, _⟩ := C'.fs.loc
    refine hR _ _ h' tk' (K'.up mdF) (fresh _ (Nat.le_refl _)) (mdF _ List.mem_cons_self) ⟨m, hn⟩ hne (.list (hideAll_get _ e ?_) ((r.up (cut_less fun b hb => ?_))))
    · intro q
      rcases List.mem_cons.mp q with q | q
      · exact hne q.symm
      · exact absurd (badOld _ q) (Nat.lt_irrefl _)
    · rcases List.mem_cons.mp hb with rfl | hb
      · exact List.mem_append.mpr (.inl List.mem_cons_self)
      · exact List.mem_append.mpr (.inr hb)
  exact codeAny_start (gens := ⟨target, iter, ifs, 0⟩ :: gs) rfl key fun E' => It'.self 0 _ _ _ stH key

/-- a comprehension -/
theorem ev_comp {α : Type} {xs : List α} {enc : α → PyData} {outs : α → List PyData} {Gx : α → Cx}
    (ok : compOk scope env = true) (hp : plainNext (⟨target, iter, ifs, 0⟩ :: gs) 0) (hi : EvI W A env G target iter (xs.map enc))
    (asn : ∀ C D, ∀ x ∈ xs, As W A (compE scope env C) (down scope G) target (enc x) (Gx x) (mdOf scope C D))
    (fg : ∀ x ∈ xs, ∀ y d, (down scope G).lookup y = some d → (Gx x).lookup y = some d)
    (body : ∀ C D, ∀ x ∈ xs, Body W A (compE scope env C) elt (⟨target, iter, ifs, 0⟩ :: gs) scope pos D (mdOf scope C D) ifs 0 (Gx x) (outs x))
    (hz : (xs.flatMap outs).length ≤ sizeLine) (hs : ∀ env x, foldedSetIterable iter env x = pure x := by intro _ _; rfl) :
    Ev W A env G (.ListComp elt (⟨target, iter, ifs, 0⟩ :: gs) scope pos) (.list (xs.flatMap outs)) := by
  intro bad s F B Q E hQ
  rw [eval_ListComp]
  have hclos := closureFor_eq (scope := scope) (env := env) fun x hx hk => (compOk_free ok (x := x.1) (hk ▸ hx)).2
  refine wpAny_comprehension_free (use := none) rfl (hs env) hclos (compOk_kind ok) (fun x hx hl => hl ▸ compOk_self ok hx) ?_
  refine comp_core (RR := fun acc C => compPost (model W.prog W.w) A E none Q acc C) ok hp hi asn fg body hz F B fun D C h' tk u _ fC hC hne r => ?_
  obtain ⟨m, hn⟩ := hC
  refine ⟨m, hn, fun h'' hs' => hQ _ h'' tk (u.trans' fC hs') (r.up fun b o e => ?_)⟩
  obtain ⟨e1, e2⟩ := cut_get e
  exact hideAll_get _ ((hs'.2 b fun q => e2 (q ▸ List.mem_cons_self)).trans e1) fun q => e2 (List.mem_cons_of_mem _ q)

/-- a comprehension, by its list's new address -/
theorem wp_compF {α : Type} {xs : List α} {enc : α → PyData} {outs : α → List PyData} {Gx : α → Cx} {bad : List Addr} {s : Shared} {Q : Value → Shared → Prop} {E : Value → Shared → Prop}
    (ok : compOk scope env = true) (hp : plainNext (⟨target, iter, ifs, 0⟩ :: gs) 0) (hi : EvI W A env G target iter (xs.map enc))
    (asn : ∀ C D, ∀ x ∈ xs, As W A (compE scope env C) (down scope G) target (enc x) (Gx x) (mdOf scope C D))
    (fg : ∀ x ∈ xs, ∀ y d, (down scope G).lookup y = some d → (Gx x).lookup y = some d)
    (body : ∀ C D, ∀ x ∈ xs, Body W A (compE scope env C) elt (⟨target, iter, ifs, 0⟩ :: gs) scope pos D (mdOf scope C D) ifs 0 (Gx x) (outs x))
    (hz : (xs.flatMap outs).length ≤ sizeLine) (F : FS env bad G s.heap) (B : Bs W bad s.heap)
    (hQ : ∀ D h' tk, Up s.heap h' → s.heap.get? D = none → Rp (cut h' bad) (.ref D) (.list (xs.flatMap outs)) → Q (.ref D) { s with heap := h', toks := tk })
    (hs : ∀ env x, foldedSetIterable iter env x = pure x := by intro _ _; rfl) :
    wpAny (model W.prog W.w) A (eval (.ListComp elt (⟨target, iter, ifs, 0⟩ :: gs) scope pos) env) Q E s := by
  rw [eval_ListComp]
  have hclos := closureFor_eq (scope := scope) (env := env) fun x hx hk => (compOk_free ok (x := x.1) (hk ▸ hx)).2
  refine wpAny_comprehension_free (use := none) rfl (hs env) hclos (compOk_kind ok) (fun x hx hl => hl ▸ compOk_self ok hx) ?_
  refine comp_core (RR := fun acc C => compPost (model W.prog W.w) A E none Q acc C) ok hp hi asn fg body hz F B fun D C h' tk u fD fC hC hne r => ?_
  obtain ⟨m, hn⟩ := hC
  refine ⟨m, hn, fun h'' hs' => hQ D h'' tk (u.trans' fC hs') fD (r.up fun b o e => ?_)⟩
  obtain ⟨e1, e2⟩ := cut_get e
  exact hideAll_get _ ((hs'.2 b fun q => e2 (q ▸ List.mem_cons_self)).trans e1) fun q => e2 (List.mem_cons_of_mem _ q)

/-- a comprehension stored into a local name on its own line -/
theorem wp_assign_comp {α : Type} {xs : List α} {enc : α → PyData} {outs : α → List PyData} {Gx : α → Cx} {y : Str} {py spos : Pos} {bad : List Addr} {s : Shared} {Q : Flow → Shared → Prop} {E : Value → Shared → Prop}
    (hsw : swapsWith (.ListComp elt (⟨target, iter, ifs, 0⟩ :: gs) scope pos) (some (.Name y py)) spos.line env = pure true) (hk : env.scope.kind = .function) (hy : env.kindOf y = some .local)
    (ok : compOk scope env = true) (hp : plainNext (⟨target, iter, ifs, 0⟩ :: gs) 0) (hi : EvI W A env G target iter (xs.map enc))
    (asn : ∀ C D, ∀ x ∈ xs, As W A (compE scope env C) (down scope G) target (enc x) (Gx x) (mdOf scope C D))
    (fg : ∀ x ∈ xs, ∀ y d, (down scope G).lookup y = some d → (Gx x).lookup y = some d)
    (body : ∀ C D, ∀ x ∈ xs, Body W A (compE scope env C) elt (⟨target, iter, ifs, 0⟩ :: gs) scope pos D (mdOf scope C D) ifs 0 (Gx x) (outs x))
    (hz : (xs.flatMap outs).length ≤ sizeLine) (F : FS env bad G s.heap) (B : Bs W bad s.heap)
    (hQ : ∀ h' tk, FS env bad ((y, .list (xs.flatMap outs)) :: G) h' → Keep [env.locals] s.heap h' → Q .next { s with heap := h', toks := tk })
    (hs : ∀ env x, foldedSetIterable iter env x = pure x := by intro _ _; rfl) :
    wpAny (model W.prog W.w) A (exec (.Assign [.Name y py] (.ListComp elt (⟨target, iter, ifs, 0⟩ :: gs) scope pos) spos) env) Q E s := by
  rw [exec_Assign_Name_used _ _ _ _ hsw]
  refine wpAny_bind (wpAny_standAt (wpAny_bind ?_))
  show wpAny _ A (do let _ ← comprehension (.ListComp elt (⟨target, iter, ifs, 0⟩ :: gs) scope pos) scope env _ (newList []) false (eval iter env) (some (assign (.Name y py) env))) _ _ s
  have hclos := closureFor_eq (scope := scope) (env := env) fun x hx hk => (compOk_free ok (x := x.1) (hk ▸ hx)).2
  refine wpAny_bind (wpAny_mono (wpAny_comprehension_free (use := some (assign (.Name y py) env)) (Q := fun _ s' => Q .next s') rfl (hs env) hclos (compOk_kind ok) (fun x hx hl => hl ▸ compOk_self ok hx) ?_)
    (fun _ s' hq => wpAny_pure (wpAny_pure hq)) fun _ _ e => e)
  refine comp_core (RR := fun acc C => compPost (model W.prog W.w) A E (some (assign (.Name y py) env)) (fun _ s' => Q .next s') acc C) ok hp hi asn fg body hz F B fun D C h' tk u _ fC hC hne r => ?_
  obtain ⟨m, hn⟩ := hC
  show wpAny _ A (assign (.Name y py) env (.ref D)) _ _ _
  have rD : Rp (cut h' bad) (.ref D) (.list (xs.flatMap outs)) := r.up (cut_less fun b hb => List.mem_cons_of_mem _ hb)
  have hLC : env.locals ≠ C := fun q => by obtain ⟨o, e⟩ := F.stands _ F.lbad; rw [q, fC] at e; cases e
  have F' : FS env (C :: bad) G h' := (F.grow (own := [C]) u (fun b hb => by rw [List.mem_singleton.mp hb]; exact fC) fun b hb => by rw [List.mem_singleton.mp hb]; obtain ⟨o, _, _, e, _⟩ := hn; exact ⟨o, e⟩)
  refine wpAny_assign_Name (F'.store hk (.inl hy) r fun h₂ tk₂ a F₂ hs₂ ha => ?_)
  have ha' : a = env.locals := ha.elim id fun q => by rw [hy] at q; cases q.1
  subst ha'
  refine ⟨m, hn.sameBut hs₂ (Ne.symm hLC), fun h₃ hs₃ => hQ h₃ tk₂ ?_ ?_⟩
  · have up3 : Up (cut h₂ (C :: bad)) (cut h₃ bad) := fun b o e => by
      obtain ⟨e1, e2⟩ := cut_get e
      exact hideAll_get _ ((hs₃.2 b fun q => e2 (q ▸ List.mem_cons_self)).trans e1) fun q => e2 (List.mem_cons_of_mem _ q)
    have nC : ∀ b, Own env b → b ≠ C := fun b hb q => by obtain ⟨o, e⟩ := F.stands b (F.ownBad hb); rw [q, fC] at e; cases e
    exact F₂.move up3 (fun b o hb e => (hs₃.2 b (nC b hb)).trans e) (fun b hb => by
      obtain ⟨o, e⟩ := F₂.stands b (List.mem_cons_of_mem _ hb)
      exact ⟨o, (hs₃.2 b fun q => by obtain ⟨o', e'⟩ := F.stands b hb; rw [q, fC] at e'; cases e').trans e⟩) F.lbad fun y c e => (F.cbad y c e).1
  · intro b o hb e
    have hbC : b ≠ C := fun q => by rw [q, fC] at e; cases e
    exact (hs₃.2 b hbC).trans ((hs₂.2 b fun q => hb (q ▸ List.mem_cons_self)).trans (u b o e))
end
end Mine

namespace Mine

/-- a name of the module's or of the built-ins' -/
structure Gl (W : Wd) (env : Env) (x : Str) (v : Value) : Prop where
  kind : env.scope.kind = .function
  look : env.kindOf x = some .globalImplicit
  ns : ∃ mg, W.base.Ns env.globals mg ∧ (mg x = some v ∨ (mg x = none ∧ ∃ mb, W.base.Ns env.builtins mb ∧ mb x = some v))
/-- what is known of the module's names -/
structure WOk (W : Wd) (mg : Str → Option Value) : Prop where
  g : W.base.Ns mainGlobals mg
  b : ∃ mb, W.base.Ns builtinsNs mb ∧ ∀ x : Str, x ≠ "__name__" → mb x = bootBuiltins x
  lim : W.base.NoLimit

section
variable {W : Wd} {A : Around} {env : Env} {G : Cx}

theorem gl_b {mg : Str → Option Value} {x : Str} {v : Value} (O : WOk W mg) (hx : mg x = none) (hv : bootBuiltins x = some v) (hk : env.scope.kind = .function := by rfl) (hl : env.kindOf x = some .globalImplicit := by rfl)
    (h1 : env.globals = mainGlobals := by rfl) (h2 : env.builtins = builtinsNs := by rfl) (hn : x ≠ "__name__" := by decide) : Gl W env x v :=
  ⟨hk, hl, mg, h1 ▸ O.g, .inr ⟨hx, let ⟨mb, h3, h4⟩ := O.b; ⟨mb, h2 ▸ h3, (h4 x hn).trans hv⟩⟩⟩
theorem gl_f {mg : Str → Option Value} {x : Str} {v : Value} (O : WOk W mg) (hx : mg x = some v) (hk : env.scope.kind = .function := by rfl) (hl : env.kindOf x = some .globalImplicit := by rfl)
    (h1 : env.globals = mainGlobals := by rfl) : Gl W env x v := ⟨hk, hl, mg, h1 ▸ O.g, .inl hx⟩

theorem wp_global {x : Str} {pos : Pos} {v : Value} {s : Shared} {Q : Value → Shared → Prop} {E : Value → Shared → Prop} (g : Gl W env x v) (B : Up W.base s.heap) (h : Q v s) (hd : (x == ("__debug__" : Str)) = false := by decide) :
    wpAny (model W.prog W.w) A (eval (.Name x pos) env) Q E s := by
  obtain ⟨mg, h1, h2⟩ := g.ns
  refine Name_function_global g.kind g.look ?_ hd
  rcases h2 with h2 | ⟨h2, mb, h3, h4⟩
  · exact loadGlobal_global (h1.keeps B) h2 h
  · exact loadGlobal_builtin (h1.keeps B) h2 (h3.keeps B) h4 h

theorem wp_call_type {x : Str} {p pos : Pos} {T : String} {e : Expr} {es : List Expr} {ds : List PyData} {bad : List Addr} {s : Shared} {Q : Value → Shared → Prop} {E : Value → Shared → Prop} (g : Gl W env x (.type T)) (hs : Sp W A env G (e :: es) ds)
    (F : FS env bad G s.heap) (B : Bs W bad s.heap) (h : ∀ vs h' tk, Up s.heap h' → Rps (cut h' bad) vs ds → wpAny (model W.prog W.w) A (call (.type T) vs) Q E { s with heap := h', toks := tk })
    (he : starEach (e :: es) env = (false, eval e env) :: starEach es env := by rfl) (hpl : (backTo pos (starEach es env)).any (·.1) = false := by rfl) (hd : (x == ("__debug__" : Str)) = false := by decide) :
    wpAny (model W.prog W.w) A (eval (.Call (.Name x p) (e :: es) [] pos) env) Q E s := by
  refine Call_Name rfl (wp_global g B.full ?_ hd)
  refine callWith_type1 ?_ he hpl
  exact hs pos bad s _ _ F B fun vs h' tk u r => h vs h' tk u r
theorem wp_call_builtin {x : Str} {p pos : Pos} {id : String} {e : Expr} {es : List Expr} {ds : List PyData} {bad : List Addr} {s : Shared} {Q : Value → Shared → Prop} {E : Value → Shared → Prop} (g : Gl W env x (.builtin id)) (hs : Sp W A env G (e :: es) ds)
    (F : FS env bad G s.heap) (B : Bs W bad s.heap) (h : ∀ vs h' tk, Up s.heap h' → Rps (cut h' bad) vs ds → wpAny (model W.prog W.w) A (call (.builtin id) vs) Q E { s with heap := h', toks := tk })
    (he : starEach (e :: es) env = (false, eval e env) :: starEach es env := by rfl) (hpl : (backTo pos (starEach es env)).any (·.1) = false := by rfl) (hd : (x == ("__debug__" : Str)) = false := by decide) :
    wpAny (model W.prog W.w) A (eval (.Call (.Name x p) (e :: es) [] pos) env) Q E s := by
  refine Call_Name rfl (wp_global g B.full ?_ hd)
  have hpl' : (backTo pos (starEach (e :: es) env)).any (·.1) = false := by
    rw [he]; show (false || (backTo pos (starEach es env)).any (·.1)) = false; rw [hpl]; rfl
  refine callWith_builtin hpl' ?_
  have hh := hs pos bad s (fun vs s' => wpAny (model W.prog W.w) A (call (.builtin id) ([] ++ vs) []) Q E s') E F B fun vs h' tk u r => h vs h' tk u r
  rw [he] at hh ⊢
  exact evalArgs_plain hh

theorem letOwned_plain {M : Model} {E : Value → Shared → Prop} {s : Shared} {target : Expr} {I : Addr} {v : Value} {o : Obj} {T : String} {Q : Unit → Shared → Prop} (ho : s.heap.get? I = some o) (hc : o.cls = .type T)
    (hT : ["enumerate", "zip", "dict_itemiterator", "dict_reverseitemiterator", "odict_iterator", "itertools.zip_longest", "itertools.pairwise"].contains T = false) (h : Q () s) :
    wpAny M A (letOwnedTupleGo target (.ref I) v) Q E s := by
  have key : wpAny M A (do
      let (.ref r, .ref a) := (Value.ref I, v) | (return : Sem Unit)
      let o ← load r
      match o.cls, o.data with
      | .type n, .fields vs =>
        if ["enumerate", "zip", "dict_itemiterator", "dict_reverseitemiterator", "odict_iterator", "itertools.zip_longest", "itertools.pairwise"].contains n && vs[0]? == some (rawInt a) then
          rule "for.unpacks-the-owned-tuple"
          updateField r 0 .none
      | _, _ => pure ()) Q E s := by
    cases v with
    | ref a =>
      refine wpAny_bind (wpAny_load ho ?_)
      rw [hc]
      cases o.data with
      | fields vs => simp only [hT, Bool.false_and, Bool.false_eq_true, if_false]; exact wpAny_pure h
      | _ => exact wpAny_pure h
    | _ => exact wpAny_pure h
  cases target <;> first | exact key | exact wpAny_pure h

/-- what stood off the old `bad` is not among the new addresses that turn -/
theorem nb {bad bad' own : List Addr} {h₀ : Heap} {n : Nat} (hb : ∀ b ∈ bad', b ∈ bad ∨ b ∈ own ∨ n ≤ b) (ho : ∀ b ∈ own, h₀.get? b = none) (hn : ∀ b o, h₀.get? b = some o → b < n) {b : Addr} {o : Obj} (e : (cut h₀ bad).get? b = some o) : b ∉ bad' := fun q => by
  obtain ⟨e1, e2⟩ := cut_get e
  rcases hb b q with q | q | q
  · exact e2 q
  · rw [ho b q] at e1; cases e1
  · exact absurd (hn b o e1) (Nat.not_lt.mpr q)

theorem evi_list {target e : Expr} {ds : List PyData} (hA : A.handled = none) (h : Ev W A env G e (.list ds)) : EvI W A env G target e ds := by
  intro bad s Q E F B hQ
  refine h bad s F B _ _ fun v h₀ tk u r => ?_
  obtain ⟨a, vs, n, rfl, ec, ea, _, rs⟩ := rp_list r
  have hl : Heap.IsList h₀ a vs.toArray := ⟨_, ea, rfl, n, rfl⟩
  have fresh : ∀ b, h₀.objs.size ≤ b → s.heap.get? b = none := fun b hb => by
    cases e : s.heap.get? b with
    | none => rfl
    | some o => exact absurd (Heap.lt_size (u b o e)) (Nat.not_lt.mpr hb)
  refine wpAny_pyIter_list (s := { s with heap := h₀, toks := tk }) hl ?_
  refine hQ h₀.objs.size [h₀.objs.size] (fun i h => h.IsListIter h₀.objs.size a i ∧ Up (cut h₀ bad) h) _ tk (u.trans (Up.push _ _)) (fun b hb => by rw [List.mem_singleton.mp hb]; exact fresh _ (Nat.le_refl _))
    ⟨⟨_, Heap.get?_push_size _ rfl, rfl, rfl⟩, (cut_up _ _).trans (Up.push _ _)⟩ (fun b hb => by rw [List.mem_singleton.mp hb]; exact ⟨_, Heap.get?_push_size _ rfl⟩) fun bad' h1 h2 h3 => ?_
  have hnb : ∀ {b o}, (cut h₀ bad).get? b = some o → b ∉ bad' := fun e => nb h3 (fun b hb => by
    rw [List.mem_singleton.mp hb]
    cases e : h₀.get? h₀.objs.size with
    | none => rfl
    | some o => exact absurd (Heap.lt_size e) (Nat.lt_irrefl _)) (fun b o e => Nat.lt_of_lt_of_le (Heap.lt_size e) (by show _ ≤ (h₀.push _).objs.size; rw [Heap.size_push]; exact Nat.le_succ _)) e
  have hIL : ∀ {h : Heap}, Up (cut h₀ bad) h → h.IsList a vs.toArray := fun up => ⟨_, up _ _ ec, rfl, n, rfl⟩
  have hai : a ≠ h₀.objs.size := Nat.ne_of_lt (Heap.lt_size ea)
  refine ⟨fun i h h' ⟨st1, st2⟩ k1 k2 => ⟨st1.at fun o e => k1 _ o List.mem_cons_self e, fun b o e => k2 b o (hnb e) (st2 b o e)⟩, fun i h st b hb => ?_, fun i d s' Q' E' hd st sb hQ' => ?_, fun s' Q' E' st hQ' => ?_, fun i s' Q' E' st q => wpAny_pyIter_listiter st.1 q⟩
  · rw [List.mem_singleton.mp hb]; obtain ⟨o, e, _⟩ := st.1; exact ⟨o, e⟩
  · obtain ⟨v, hv, rv⟩ := rs.get hd
    refine wpAny_pyNext_list_item st.1 (hIL st.2) (x := v) (by simpa using hv) fun h' hit' hs' => ⟨v, rfl, ?_⟩
    obtain ⟨o', eo', hc', hd'⟩ := id hit'
    refine letOwned_plain (s := { s' with heap := h' }) eo' hc' (by decide) ?_
    have up' : Up (cut h₀ bad) h' := fun b o e => (hs'.2 b fun q => hnb e (h1 b (by rw [q]; exact List.mem_cons_self))).trans (st.2 b o e)
    exact hQ' v h' s'.toks (Keep.of_same List.mem_cons_self hs') ⟨hit', up'⟩ (rv.up fun b o e => hideAll_get _ (up' b o e) (hnb e))
  · have hlen := rs.length
    exact wpAny_pyNext_list_end hA st.1 (hIL st.2) (by simp [hlen]) fun h' he => hQ' h' s'.toks (Keep.of_ext List.mem_cons_self he)

/-- an iterator over a range by ones -/
theorem evi_range_of {target e : Expr} {a : Int} {n : Nat} (hA : A.handled = none) (ha : -(2 ^ 62) ≤ a ∧ a + n < 2 ^ 62)
    (h : ∀ (bad : List Addr) (s : Shared) (Q : Value → Shared → Prop) (E : Value → Shared → Prop), FS env bad G s.heap → Bs W bad s.heap →
      (∀ r b t u v h' tk, Up s.heap h' → IsRange h' r a b 1 t u v → Builtin.Range.rangeSize a b 1 = n → -(2 ^ 62) ≤ b → b < 2 ^ 62 → Q (.ref r) { s with heap := h', toks := tk }) → wpAny (model W.prog W.w) A (eval e env) Q E s) :
    EvI W A env G target e ((List.range n).map fun i : Nat => .int (a + (i : Int))) := by
  intro bad s Q E F B hQ
  refine h bad s _ _ F B fun r b t u v h₀ tk up hr hsz hb1 hb2 => ?_
  have fresh : ∀ b, h₀.objs.size ≤ b → s.heap.get? b = none := fun b hb => by
    cases e : s.heap.get? b with
    | none => rfl
    | some o => exact absurd (Heap.lt_size (up b o e)) (Nat.not_lt.mpr hb)
  refine wpAny_pyIter_range (s := { s with heap := h₀, toks := tk }) hr (small_one ha.1 (by omega) hb1 hb2) ?_
  refine hQ h₀.objs.size [h₀.objs.size] (fun i h => IsRangeIter h h₀.objs.size (a + (i : Nat) * 1) ((n : Int) - (i : Nat)) 1) _ tk (up.trans (Up.push _ _)) (fun b hb => by rw [List.mem_singleton.mp hb]; exact fresh _ (Nat.le_refl _)) ?_
    (fun b hb => by rw [List.mem_singleton.mp hb]; exact ⟨_, Heap.get?_push_size _ rfl⟩) fun bad' h1 h2 h3 => ?_
  · have := Heap.get?_push_size h₀ (o := { cls := .type "range_iterator", data := .fields #[rawInt a, rawInt (Builtin.Range.rangeSize a b 1), rawInt 1] }) rfl
    show (h₀.push _).get? h₀.objs.size = _
    rw [this, hsz]
    simp
  refine ⟨fun i h h' st k1 k2 => k1 _ _ List.mem_cons_self st, fun i h st b hb => ?_, fun i d s' Q' E' hd st sb hQ' => ?_, fun s' Q' E' st hQ' => ?_, fun i s' Q' E' st q => ?_⟩
  · rw [List.mem_singleton.mp hb]; exact ⟨_, st⟩
  · have hin : i < n := by
      have := (List.getElem?_eq_some_iff.mp hd).1
      simpa using this
    have hd' : d = .int (a + (i : Int)) := by
      rw [List.getElem?_map, List.getElem?_range hin] at hd
      simpa using hd.symm
    subst hd'
    refine wpAny_pyNext_range_item st (by omega) fun h' hit' hs' => ⟨_, rfl, ?_⟩
    refine letOwned_plain (s := { s' with heap := h', toks := s'.toks + 1 }) hit' rfl (by decide) ?_
    refine hQ' _ h' (s'.toks + 1) (Keep.of_same List.mem_cons_self hs') ?_ (by rw [Int.mul_one]; exact .int _ _)
    have e1 : a + ((i : Nat) : Int) * 1 + 1 = a + ((i + 1 : Nat) : Int) * 1 := by omega
    have e2 : (n : Int) - ((i : Nat) : Int) - 1 = (n : Int) - ((i + 1 : Nat) : Int) := by omega
    rw [e1, e2] at hit'
    exact hit'
  · exact wpAny_pyNext_range_end hA st (by simp) fun h' he => hQ' h' s'.toks (Keep.of_ext List.mem_cons_self he)
  · exact (Walks.range (prog := W.prog) (w := W.w) (A := A) hA h₀.objs.size a 1 n).self i s' Q' E' st q

theorem rps1 {h : Heap} {vs : List Value} {a : Int} (r : Rps h vs [.int a]) : ∃ t, vs = [.int a t] := by
  cases r with
  | cons r1 r2 => cases r2; obtain ⟨t, rfl⟩ := rp_int r1; exact ⟨t, rfl⟩
theorem rps2 {h : Heap} {vs : List Value} {a b : Int} (r : Rps h vs [.int a, .int b]) : ∃ t u, vs = [.int a t, .int b u] := by
  cases r with
  | cons r1 r2 => obtain ⟨t, rfl⟩ := rp_int r1; obtain ⟨u, rfl⟩ := rps1 r2; exact ⟨t, u, rfl⟩

/-- range(n) -/
theorem evi_range1 {target e : Expr} {x : Str} {p pos : Pos} {n : Int} (hA : A.handled = none) (g : Gl W env x (.type "range")) (h : Ev W A env G e (.int n)) (h0 : 0 ≤ n) (h1 : n < 2 ^ 62)
    (he : starEach [e] env = [(false, eval e env)] := by rfl) (hd : (x == ("__debug__" : Str)) = false := by decide) :
    EvI W A env G target (.Call (.Name x p) [e] [] pos) ((List.range n.toNat).map fun i : Nat => .int (i : Int)) := by
  have key : EvI W A env G target (.Call (.Name x p) [e] [] pos) ((List.range n.toNat).map fun i : Nat => .int (0 + (i : Int))) := by
    refine evi_range_of hA ⟨by decide, by omega⟩ fun bad s Q E F B hQ => ?_
    refine wp_call_type g (sp_cons h sp_nil he) F B (fun vs h' tk u r => ?_) he rfl hd
    obtain ⟨t, rfl⟩ := rps1 r
    refine call_range_1 ?_
    refine hQ _ n _ _ _ _ _ (u.trans (Up.push _ _)) (IsRange.new ..) ?_ (by omega) h1
    rw [rangeSize_one]; split <;> omega
  simpa using key
/-- range(a, b) -/
theorem evi_range2 {target e₁ e₂ : Expr} {x : Str} {p pos : Pos} {a b : Int} (hA : A.handled = none) (g : Gl W env x (.type "range")) (h₁ : Ev W A env G e₁ (.int a)) (h₂ : Ev W A env G e₂ (.int b)) (ha : 0 ≤ a) (ha' : a < 2 ^ 61) (h0 : 0 ≤ b) (h1 : b < 2 ^ 61)
    (he : starEach [e₁, e₂] env = [(false, eval e₁ env), (false, eval e₂ env)] := by rfl) (he' : starEach [e₂] env = [(false, eval e₂ env)] := by rfl) (hd : (x == ("__debug__" : Str)) = false := by decide) :
    EvI W A env G target (.Call (.Name x p) [e₁, e₂] [] pos) ((List.range (b - a).toNat).map fun i : Nat => .int (a + (i : Int))) := by
  refine evi_range_of hA ⟨by omega, by omega⟩ fun bad s Q E F B hQ => ?_
  refine wp_call_type g (sp_cons h₁ (sp_cons h₂ sp_nil he') (by rw [he, he'])) F B (fun vs h' tk u r => ?_) (by rw [he, he']) (by rw [he']; rfl) hd
  obtain ⟨t, t', rfl⟩ := rps2 r
  refine call_range_2 ?_
  refine hQ _ b _ _ _ _ _ (u.trans (Up.push _ _)) (IsRange.new ..) ?_ (by omega) (by omega)
  rw [rangeSize_one]; split <;> omega

/-- enumerate(xs), unpacked by the target -/
theorem evi_enum {elts : List Expr} {k : Nat} {tp : Pos} {e : Expr} {x : Str} {p pos : Pos} {ds : List PyData} (hA : A.handled = none) (g : Gl W env x (.type "enumerate")) (h : Ev W A env G e (.list ds))
    (he : starEach [e] env = [(false, eval e env)] := by rfl) (hd : (x == ("__debug__" : Str)) = false := by decide) :
    EvI W A env G (.Tuple elts k tp) (.Call (.Name x p) [e] [] pos) (ds.zipIdx.map fun p => .tuple [.int (p.2 : Int), p.1]) := by
  intro bad s Q E F B hQ
  refine wp_call_type g (sp_cons h sp_nil he) F B (fun vs h₀ tk u r => ?_) he rfl hd
  cases r with
  | cons r1 r2 =>
  cases r2
  obtain ⟨a, vs, n, rfl, ec, ea, _, rs⟩ := rp_list r1
  have hl : Heap.IsList h₀ a vs.toArray := ⟨_, ea, rfl, n, rfl⟩
  have fresh : ∀ b, h₀.objs.size ≤ b → s.heap.get? b = none := fun b hb => by
    cases e : s.heap.get? b with
    | none => rfl
    | some o => exact absurd (Heap.lt_size (u b o e)) (Nat.not_lt.mpr hb)
  refine call_enumerate_list (s := { s with heap := h₀, toks := tk }) hl fun h₁ en it hz up₁ => ?_
  replace up₁ : Up h₀ h₁ := up₁
  replace hz : h₁.objs.size = h₀.objs.size + 2 := hz
  replace en : IsEnum h₁ (h₀.objs.size + 1) h₀.objs.size 0 .none := en
  replace it : h₁.IsListIter h₀.objs.size a 0 := it
  refine wpAny_pyIter_enum (s := { s with heap := h₁, toks := tk }) en ?_
  refine hQ (h₀.objs.size + 1) [h₀.objs.size + 1, h₀.objs.size] (fun i h => (∃ old, IsEnum h (h₀.objs.size + 1) h₀.objs.size (i : Int) old) ∧ h.IsListIter h₀.objs.size a i ∧ Up (cut h₀ bad) h) h₁ tk (u.trans up₁) (fun b hb => ?_)
    ⟨⟨_, en⟩, it, (cut_up _ _).trans up₁⟩ (fun b hb => ?_) fun bad' h1 h2 h3 => ?_
  · rcases List.mem_cons.mp hb with rfl | hb
    · exact fresh _ (Nat.le_succ _)
    · rw [List.mem_singleton.mp hb]; exact fresh _ (Nat.le_refl _)
  · rcases List.mem_cons.mp hb with rfl | hb
    · exact ⟨_, en⟩
    · rw [List.mem_singleton.mp hb]; obtain ⟨o, e, _⟩ := it; exact ⟨o, e⟩
  have hnone : ∀ b, h₀.objs.size ≤ b → h₀.get? b = none := fun b hb => by
    cases e : h₀.get? b with
    | none => rfl
    | some o => exact absurd (Heap.lt_size e) (Nat.not_lt.mpr hb)
  have hnb : ∀ {b o}, (cut h₀ bad).get? b = some o → b ∉ bad' := fun e => nb h3 (fun b hb => by
    rcases List.mem_cons.mp hb with rfl | hb
    · exact hnone _ (Nat.le_succ _)
    · rw [List.mem_singleton.mp hb]; exact hnone _ (Nat.le_refl _)) (fun b o e => Nat.lt_of_lt_of_le (Heap.lt_size e) (by show _ ≤ h₁.objs.size; rw [hz]; omega)) e
  have hIL : ∀ {h : Heap}, Up (cut h₀ bad) h → h.IsList a vs.toArray := fun up => ⟨_, up _ _ ec, rfl, n, rfl⟩
  have hne1 : h₀.objs.size + 1 ≠ h₀.objs.size := Nat.succ_ne_self _
  have m1 : h₀.objs.size + 1 ∈ [h₀.objs.size + 1, h₀.objs.size] := List.mem_cons_self
  have m2 : h₀.objs.size ∈ [h₀.objs.size + 1, h₀.objs.size] := List.mem_cons_of_mem _ List.mem_cons_self
  refine ⟨fun i h h' ⟨⟨old, st1⟩, st2, st3⟩ k1 k2 => ⟨⟨old, k1 _ _ m1 st1⟩, st2.at fun o e => k1 _ o m2 e, fun b o e => k2 b o (hnb e) (st3 b o e)⟩, fun i h st b hb => ?_, fun i d s' Q' E' hd st sb hQ' => ?_, fun s' Q' E' st hQ' => ?_, fun i s' Q' E' ⟨⟨_, st⟩, _⟩ q => wpAny_pyIter_enum st q⟩
  · rcases List.mem_cons.mp hb with rfl | hb
    · obtain ⟨⟨_, st1⟩, _⟩ := st; exact ⟨_, st1⟩
    · rw [List.mem_singleton.mp hb]; obtain ⟨o, e, _⟩ := st.2.1; exact ⟨o, e⟩
  · obtain ⟨⟨old, st1⟩, st2, st3⟩ := st
    have hlt : i < ds.length := by
      have := (List.getElem?_eq_some_iff.mp hd).1
      simpa using this
    have hdi : ds[i]? = some ds[i] := List.getElem?_eq_getElem hlt
    have hd' : d = .tuple [.int (i : Int), ds[i]] := by
      rw [List.getElem?_map, List.getElem?_zipIdx, hdi] at hd
      simpa using hd.symm
    subst hd'
    obtain ⟨v, hv, rv⟩ := rs.get hdi
    refine wpAny_pyNext_enum_item st1 st2 (hIL st3) (x := v) (by simpa using hv) hne1 fun h' en' it' tu' hz' kp => ⟨_, rfl, ?_⟩
    refine wpAny_letOwnedTupleGo_enum (s := { s' with heap := h', toks := s'.toks + 1 }) en' fun h'' en'' hs'' => ?_
    have hne : s'.heap.objs.size ≠ h₀.objs.size + 1 := Nat.ne_of_gt (Heap.lt_size st1)
    have kp' : Keep [h₀.objs.size + 1, h₀.objs.size] s'.heap h'' := fun b o hb e => (hs''.2 b fun q => hb (q ▸ m1)).trans (kp b o (fun q => hb (q ▸ m1)) (fun q => hb (q ▸ m2)) e)
    have up' : Up (cut h₀ bad) h'' := fun b o e => kp' b o (fun q => hnb e (h1 b q)) (st3 b o e)
    refine hQ' _ h'' _ kp' ⟨⟨v, ?_⟩, it'.extBut hs''.extBut hne1.symm, up'⟩ (.tuple (vs := [.int i s'.toks, v]) (n := 0) (hideAll_get _ ((hs''.2 _ hne).trans tu') fun q => ?_) (.cons (.int _ _) (.one (rv.up fun b o e => hideAll_get _ (up' b o e) (hnb e)))))
    · have : ((i : Int) + 1) = ((i + 1 : Nat) : Int) := by omega
      rw [← this]; exact en''
    · obtain ⟨o, e⟩ := sb _ q
      exact absurd (Heap.lt_size e) (Nat.lt_irrefl _)
  · obtain ⟨⟨old, st1⟩, st2, st3⟩ := st
    have hlen := rs.length
    simp only [List.length_map, List.length_zipIdx] at st1 st2
    exact wpAny_pyNext_enum_end hA st1 st2 (hIL st3) (by simp [hlen]) fun h' he => hQ' h' s'.toks (Keep.of_ext m2 he)

/-- targets -/
theorem as_name {x : Str} {p : Pos} {d : PyData} {md : List Addr} (hk : env.scope.kind = .function) (hx : env.kindOf x = some .local ∨ (env.kindOf x = some .cell ∧ (env.cells.lookup x).isSome = true))
    (hm : env.locals ∈ md) (hc : ∀ c, env.kindOf x = some .cell → env.cells.lookup x = some c → c ∈ md) : As W A env G (.Name x p) d ((x, d) :: G) md := by
  intro bad s v Q E F r hQ
  refine wpAny_assign_Name (F.store hk hx r fun h' tk a F' hs ha => hQ h' tk F' (Keep.of_same ?_ hs) fun b o hb e => (hs.2 b fun q => hb (q ▸ ?_)).trans e)
  · rcases ha with rfl | ⟨h1, h2⟩
    · exact hm
    · exact hc a h1 h2
  · rcases ha with rfl | ⟨h1, h2⟩
    · exact .inl rfl
    · exact .inr ⟨x, h2⟩
/-- within a comprehension -/
theorem as_comp {scope : Scope} {C D : Addr} {x : Str} {p : Pos} {d : PyData} (ok : compOk scope env = true) (hx : scope.names.lookup x = some .local ∨ scope.names.lookup x = some .cell) :
    As W A (compE scope env C) G (.Name x p) d ((x, d) :: G) (mdOf scope C D) := by
  have hkind : (compE scope env C).kindOf x = (scope.names.lookup x).map fun k => if (k == .free && env.scope.kind == .function && env.kindOf x == some .cell) then .cell else k := relabel_lookup
  refine as_name (show scope.kind = .function from compOk_kind ok) ?_ List.mem_cons_self fun c h1 h2 => ?_
  · rcases hx with hx | hx
    · left; rw [hkind, hx]; rfl
    · right
      refine ⟨by rw [hkind, hx]; rfl, ?_⟩
      have e := cellsFrom_app scope.names (C + 1) [] (closOf env.cells scope.names [])
      rw [List.nil_append] at e
      show ((cellsFrom (C + 1) scope.names (closOf env.cells scope.names [])).lookup x).isSome = true
      rw [e, lookup_app]
      have key : ∀ (names : List (Str × NameKind)) (n : Nat) (acc : List (Str × Addr)), ((x, NameKind.cell) ∈ names ∨ (acc.lookup x).isSome = true) → ((cellsFrom n names acc).lookup x).isSome = true := by
        intro names
        induction names with
        | nil => intro n acc h; exact h.elim (fun q => nomatch q) id
        | cons y r ih =>
          intro n acc h
          obtain ⟨z, k⟩ := y
          unfold cellsFrom
          split
          · refine ih _ _ ?_
            by_cases hz : x = z
            · subst hz; right; simp
            · rcases h with h | h
              · rcases List.mem_cons.mp h with q | q
                · exact absurd (Prod.mk.inj q).1 hz
                · exact .inl q
              · right; rw [List.lookup_cons, beq_eq_false_iff_ne.mpr hz]; exact h
          · rename_i hk
            refine ih _ _ (h.imp (fun h => ?_) id)
            rcases List.mem_cons.mp h with q | q
            · exact absurd (by rw [← (Prod.mk.inj q).2]; rfl) hk
            · exact q
      have := key scope.names (C + 1) [] (.inl (mem_of_lookup hx))
      rw [Option.isSome_iff_exists] at this
      obtain ⟨c, hc⟩ := this
      rw [hc]; rfl
  · rcases compE_cells ok h2 with q | ⟨q, _⟩
    · exact List.mem_cons_of_mem _ (List.mem_cons_of_mem _ (List.mem_map.mpr ⟨_, q, rfl⟩))
    · have := compOk_self ok q
      rcases hx with hx | hx <;> (rw [hx] at this; cases this)
/-- a pair is unpacked -/
theorem as_pair {t₁ t₂ : Expr} {k : Nat} {p : Pos} {d₁ d₂ : PyData} {G₁ G₂ : Cx} {md : List Addr} (hA : A.handled = none) (h₁ : As W A env G t₁ d₁ G₁ md) (h₂ : As W A env G₁ t₂ d₂ G₂ md)
    (he : assignEach [t₁, t₂] env = [(false, assign t₁ env), (false, assign t₂ env)] := by rfl) : As W A env G (.Tuple [t₁, t₂] k p) (.tuple [d₁, d₂]) G₂ md := by
  intro bad s v Q E F r hQ
  obtain ⟨a, vs, n, rfl, ec, ea, _, rs⟩ := rp_tuple r
  cases rs with
  | cons r1 rs =>
  cases rs with
  | cons r2 rs =>
  cases rs
  refine assign_Tuple_tuple hA ⟨_, ea, rfl, n, rfl⟩ (by rw [he]; rfl) (by rw [he]; rfl) fun h₁' he₁ => ?_
  have u : Up s.heap h₁' := fun b o e => he₁ b o (Nat.ne_of_lt (Heap.lt_size e)) e
  rw [he]
  show wpAny _ A (assignInOrder [assign t₁ env, assign t₂ env] [_, _]) _ _ _
  rw [assignInOrder]
  refine wpAny_bind (wpAny_holding (h₁ bad _ _ _ _ (F.up u) (r1.up (u.keep _).cut) fun h' tk F' K' O' => ?_))
  rw [assignInOrder]
  refine wpAny_bind (wpAny_holding (h₂ bad _ _ _ _ F' (r2.up ((u.keep bad).trans fun b o hb e => O' b o (fun q => hb (F.ownBad q)) e).cut) fun h'' tk' F'' K'' O'' => ?_))
  rw [assignInOrder]
  · exact wpAny_pure (hQ h'' tk' F'' ((u.keep md).trans (K'.trans K'')) fun b o hb e => O'' b o hb (O' b o hb (u b o e)))
  · intros; simp_all
end
end Mine

namespace Mine
section
variable {W : Wd} {A : Around} {env : Env} {G : Cx}

theorem rps_one {h : Heap} {vs : List Value} {d : PyData} (r : Rps h vs [d]) : ∃ v, vs = [v] ∧ Rp h v d := by
  cases r with
  | cons r1 r2 => cases r2; exact ⟨_, rfl, r1⟩

/-- a call of a built-in with one argument -/
theorem ev_call1 {x : Str} {p pos : Pos} {id : String} {e : Expr} {d r : PyData} (g : Gl W env x (.builtin id)) (h : Ev W A env G e d)
    (hc : ∀ (bad : List Addr) (s : Shared) (v : Value), FS env bad G s.heap → Bs W bad s.heap → Rp (cut s.heap bad) v d → Gives W A (call (.builtin id) [v]) bad s r)
    (he : starEach [e] env = [(false, eval e env)] := by rfl) (hd : (x == ("__debug__" : Str)) = false := by decide) : Ev W A env G (.Call (.Name x p) [e] [] pos) r := by
  intro bad s F B Q E hQ
  refine wp_call_builtin g (sp_cons h sp_nil he) F B (fun vs h' tk u rv => ?_) he rfl hd
  obtain ⟨v, rfl, rv'⟩ := rps_one rv
  exact hc bad _ v (F.up u) (B.up u) rv' Q E fun v' h'' tk' u' r' => hQ v' h'' tk' (u.trans u') r'
theorem ev_callT {x : Str} {p pos : Pos} {T : String} {e : Expr} {d r : PyData} (g : Gl W env x (.type T)) (h : Ev W A env G e d)
    (hc : ∀ (bad : List Addr) (s : Shared) (v : Value), FS env bad G s.heap → Bs W bad s.heap → Rp (cut s.heap bad) v d → Gives W A (call (.type T) [v]) bad s r)
    (he : starEach [e] env = [(false, eval e env)] := by rfl) (hd : (x == ("__debug__" : Str)) = false := by decide) : Ev W A env G (.Call (.Name x p) [e] [] pos) r := by
  intro bad s F B Q E hQ
  refine wp_call_type g (sp_cons h sp_nil he) F B (fun vs h' tk u rv => ?_) he rfl hd
  obtain ⟨v, rfl, rv'⟩ := rps_one rv
  exact hc bad _ v (F.up u) (B.up u) rv' Q E fun v' h'' tk' u' r' => hQ v' h'' tk' (u.trans u') r'

theorem ev_len {x : Str} {p pos : Pos} {e : Expr} {ds : List PyData} (g : Gl W env x (.builtin "len")) (h : Ev W A env G e (.list ds)) (hf : ds.length < 2 ^ 62)
    (he : starEach [e] env = [(false, eval e env)] := by rfl) (hd : (x == ("__debug__" : Str)) = false := by decide) : Ev W A env G (.Call (.Name x p) [e] [] pos) (.int ds.length) := by
  refine ev_call1 g h (fun bad s v F B r Q E hQ => ?_) he hd
  obtain ⟨a, vs, n, rfl, _, ea, _, rs⟩ := rp_list r
  have hl := rs.length
  refine call_len_list (items := vs.toArray) ⟨_, ea, rfl, n, rfl⟩ (by simp; omega) ?_
  have e1 : (vs.toArray.size : Int) = (ds.length : Int) := by simp [hl]
  rw [e1]
  exact hQ _ s.heap _ (Up.refl _) (.int _ _)

theorem ev_abs {x : Str} {p pos : Pos} {e : Expr} {a : Int} (g : Gl W env x (.builtin "abs")) (h : Ev W A env G e (.int a))
    (he : starEach [e] env = [(false, eval e env)] := by rfl) (hd : (x == ("__debug__" : Str)) = false := by decide) : Ev W A env G (.Call (.Name x p) [e] [] pos) (.int (if a < 0 then -a else a)) := by
  refine ev_call1 g h (fun bad s v F B r Q E hQ => ?_) he hd
  obtain ⟨t, rfl⟩ := rp_int r
  exact call_abs_int fun u tk => hQ _ s.heap tk (Up.refl _) (.int _ _)

theorem rps_ints {h : Heap} {vs : List Value} {ns : List Int} (r : Rps h vs (ns.map PyData.int)) : ∀ i v, vs[i]? = some v → ∃ t, v = Value.int (ns.getD i 0) t := by
  intro i v hv
  have hlt : i < vs.length := (List.getElem?_eq_some_iff.mp hv).1
  have hl := r.length
  rw [List.length_map] at hl
  have hn : ns[i]? = some ns[i] := List.getElem?_eq_getElem (by omega)
  obtain ⟨v', hv', rv⟩ := r.get (k := i) (d := .int ns[i]) (by rw [List.getElem?_map, hn]; rfl)
  rw [hv] at hv'; cases hv'
  obtain ⟨t, rfl⟩ := rp_int rv
  exact ⟨t, by rw [List.getD_eq_getElem?_getD, hn]; rfl⟩

theorem ev_sum {x : Str} {p pos : Pos} {e : Expr} {ns : List Int} (hA : A.handled = none) (g : Gl W env x (.builtin "sum")) (h : Ev W A env G e (.list (ns.map PyData.int)))
    (he : starEach [e] env = [(false, eval e env)] := by rfl) (hd : (x == ("__debug__" : Str)) = false := by decide) : Ev W A env G (.Call (.Name x p) [e] [] pos) (.int ns.sum) := by
  refine ev_call1 g h (fun bad s v F B r Q E hQ => ?_) he hd
  obtain ⟨a, vs, n, rfl, _, ea, _, rs⟩ := rp_list r
  have hl : Heap.IsList s.heap a vs.toArray := ⟨_, ea, rfl, n, rfl⟩
  have hlt : a < s.heap.objs.size := Heap.lt_size ea
  have hlen := rs.length
  rw [List.length_map] at hlen
  refine call_sum_walkG (wpAny_pyIter_list hl ⟨s.heap.objs.size, _, _, _, _, _, fun i => ns.getD i 0, rfl, Walks.list (show A.in1.handled = none from hA) s.heap.objs.size a (Nat.ne_of_lt hlt) vs.toArray, ⟨⟨_, Heap.get?_push_size _ rfl, rfl, rfl⟩, hl.push _⟩, fun b hb => ?_, fun i v hv => rps_ints rs i v (by simpa using hv), fun h' tk t' hk => ?_⟩)
  · show b < (s.heap.push _).objs.size
    rw [Heap.size_push]
    simp only [List.mem_cons, List.not_mem_nil, or_false] at hb
    rcases hb with rfl | rfl
    · exact Nat.lt_succ_self _
    · exact Nat.lt_succ_of_lt hlt
  · have e1 : preSum (fun i => ns.getD i 0) vs.toArray.size = ns.sum := by
      rw [preSum_getD, List.take_of_length_le (by simp [hlen])]
    rw [e1]
    refine hQ _ h' tk (fun b o e => hk b o (fun q => ?_) (Heap.get?_push_of_some _ e)) (.int _ _)
    rw [List.mem_singleton.mp q] at e
    exact absurd (Heap.lt_size e) (Nat.lt_irrefl _)

theorem gt_int' {prog : Program} {w : World} {a b : Int} {t u : Tok} {s : Shared} {Q : Value → Shared → Prop} {E : Value → Shared → Prop} (h : Q (.bool (decide (b < a))) s) :
    wpAny (model prog w) A (richCompare .Gt (.int a t) (.int b u)) Q E s := gt_int h

theorem argBest_max {ns : List Int} : ∀ k, k < ns.length → (∀ i, i ≤ k → ns.getD i 0 ≤ ns.getD (argBest (fun i j => decide (ns.getD j 0 < ns.getD i 0)) k) 0) ∧ argBest (fun i j => decide (ns.getD j 0 < ns.getD i 0)) k ≤ k
  | 0, _ => ⟨fun i hi => by have : i = 0 := by omega
                            subst this; simp [argBest], by simp [argBest]⟩
  | k + 1, hk => by
    obtain ⟨ih1, ih2⟩ := argBest_max (ns := ns) k (by omega)
    rw [argBest]
    by_cases hb : ns.getD (argBest (fun i j => decide (ns.getD j 0 < ns.getD i 0)) k) 0 < ns.getD (k + 1) 0
    · rw [if_pos (by simpa using hb)]
      refine ⟨fun i hi => ?_, Nat.le_refl _⟩
      rcases Nat.lt_or_ge i (k + 1) with h | h
      · have := ih1 i (by omega); omega
      · have : i = k + 1 := by omega
        subst this; exact Int.le_refl _
    · rw [if_neg (by simpa using hb)]
      refine ⟨fun i hi => ?_, by omega⟩
      rcases Nat.lt_or_ge i (k + 1) with h | h
      · exact ih1 i (by omega)
      · have : i = k + 1 := by omega
        subst this; omega

/-- max of a list of ints -/
theorem ev_max {x : Str} {p pos : Pos} {e : Expr} {ns : List Int} {m : Int} (hA : A.handled = none) (g : Gl W env x (.builtin "max")) (h : Ev W A env G e (.list (ns.map PyData.int))) (hm : m ∈ ns) (hle : ∀ a ∈ ns, a ≤ m)
    (he : starEach [e] env = [(false, eval e env)] := by rfl) (hd : (x == ("__debug__" : Str)) = false := by decide) : Ev W A env G (.Call (.Name x p) [e] [] pos) (.int m) := by
  refine ev_call1 g h (fun bad s v F B r Q E hQ => ?_) he hd
  obtain ⟨a, vs, n, rfl, _, ea, _, rs⟩ := rp_list r
  have hl : Heap.IsList s.heap a vs.toArray := ⟨_, ea, rfl, n, rfl⟩
  have hlt : a < s.heap.objs.size := Heap.lt_size ea
  have hlen := rs.length
  rw [List.length_map] at hlen
  have hpos : 0 < ns.length := List.length_pos_of_mem hm
  refine call_max_walk (wpAny_pyIter_list hl ⟨s.heap.objs.size, _, _, _, _, _, fun i j => decide (ns.getD j 0 < ns.getD i 0), rfl, Walks.list (show A.in1.handled = none from hA) s.heap.objs.size a (Nat.ne_of_lt hlt) vs.toArray, ⟨⟨_, Heap.get?_push_size _ rfl, rfl, rfl⟩, hl.push _⟩, fun b hb => ?_, by simp; omega, fun i j vi vj s' Q' E' hi hj hq => ?_, fun v h' tk hv hk => ?_⟩)
  · show b < (s.heap.push _).objs.size
    rw [Heap.size_push]
    simp only [List.mem_cons, List.not_mem_nil, or_false] at hb
    rcases hb with rfl | rfl
    · exact Nat.lt_succ_self _
    · exact Nat.lt_succ_of_lt hlt
  · obtain ⟨t, rfl⟩ := rps_ints rs i vi (by simpa using hi)
    obtain ⟨u, rfl⟩ := rps_ints rs j vj (by simpa using hj)
    exact gt_int' hq
  · have hz : vs.toArray.size - 1 = ns.length - 1 := by simp [hlen]
    rw [hz] at hv
    obtain ⟨k1, k2⟩ := argBest_max (ns := ns) (ns.length - 1) (by omega)
    obtain ⟨t, rfl⟩ := rps_ints rs _ v (by rw [List.getElem?_toArray] at hv; exact hv)
    have hb : argBest (fun i j => decide (ns.getD j 0 < ns.getD i 0)) (ns.length - 1) < ns.length := by omega
    have e1 : ns.getD (argBest (fun i j => decide (ns.getD j 0 < ns.getD i 0)) (ns.length - 1)) 0 = m := by
      apply Int.le_antisymm
      · rw [List.getD_eq_getElem?_getD, List.getElem?_eq_getElem hb]
        exact hle _ (List.getElem_mem hb)
      · obtain ⟨i, hi, rfl⟩ := List.getElem_of_mem hm
        have := k1 i (by omega)
        rwa [List.getD_eq_getElem?_getD (l := ns) (i := i), List.getElem?_eq_getElem hi] at this
    rw [e1]
    refine hQ _ h' tk (fun b o e => hk b o (fun q => ?_) (Heap.get?_push_of_some _ e)) (.int _ _)
    rw [List.mem_singleton.mp q] at e
    exact absurd (Heap.lt_size e) (Nat.lt_irrefl _)

/-- list(range(n)) -/
theorem ev_list_range {x y : Str} {p p' pos pos' : Pos} {e : Expr} {n : Nat} (hA : A.handled = none) (g : Gl W env x (.type "list")) (g' : Gl W env y (.type "range")) (h : Ev W A env G e (.int n)) (hn : n ≤ 2 ^ 24)
    (he : starEach [e] env = [(false, eval e env)] := by rfl) (he' : starEach [.Call (.Name y p') [e] [] pos'] env = [(false, eval (.Call (.Name y p') [e] [] pos') env)] := by rfl) (hd : (x == ("__debug__" : Str)) = false := by decide) (hd' : (y == ("__debug__" : Str)) = false := by decide) :
    Ev W A env G (.Call (.Name x p) [.Call (.Name y p') [e] [] pos'] [] pos) (.list ((List.range n).map fun i : Nat => .int (i : Int))) := by
  intro bad s F B Q E hQ
  refine Call_Name rfl (wp_global g B.full ?_ hd)
  refine callWith_type1 ?_ he' rfl
  refine wpAny_items_cons ?_ he'
  refine wp_call_type g' (sp_cons h sp_nil he) F B (fun vs h₁ tk u r => ?_) he rfl hd'
  obtain ⟨t, rfl⟩ := rps1 r
  refine call_range_1 (s := { s with heap := h₁, toks := tk }) ?_
  refine wpAny_items_nil ?_
  have hsz : Builtin.Range.rangeSize 0 (n : Int) 1 = n := by rw [rangeSize_one]; split <;> omega
  refine call_list_range (n := n) hA (IsRange.new ..) (small_one (by decide) (by decide) (by omega) (by omega)) hsz hn fun h' tk' acc c hk hl hacc => ?_
  have up : Up s.heap h' := fun b o e => hk b o (Heap.get?_push_of_some _ (u b o e))
  refine hQ _ h' tk' up ?_
  have hsize : (h₁.push { cls := .type "range", data := .fields #[.int 0 tk, .int n t, .int 1 (tk + 1)] }).objs.size = h₁.objs.size + 1 := Heap.size_push ..
  obtain ⟨hz1, hz2⟩ := hacc
  have hvals : Rps (cut h' bad) acc.toList ((List.range n).map fun i : Nat => .int (i : Int)) := by
    have key : ∀ (k : Nat) (vs : List Value) (m : Nat), vs.length = k → (∀ j v, vs[j]? = some v → ∃ t, v = Value.int ((m + j : Nat) : Int) t) → Rps (cut h' bad) vs ((List.range' m k).map fun i : Nat => .int (i : Int)) := by
      intro k
      induction k with
      | zero => intro vs m h0 _; rw [List.length_eq_zero_iff] at h0; subst h0; exact .nil
      | succ k ih =>
        intro vs m h1 h2
        cases vs with
        | nil => simp at h1
        | cons v vs =>
          rw [List.range'_succ, List.map_cons]
          obtain ⟨t, rfl⟩ := h2 0 v rfl
          refine .cons (.int _ _) (ih vs (m + 1) (by simpa using h1) fun j w hw => ?_)
          obtain ⟨t, e⟩ := h2 (j + 1) w (by simpa using hw)
          exact ⟨t, by rw [e]; congr 1; omega⟩
    have := key n acc.toList 0 (by simpa using hz1) (fun j v hv => by
      obtain ⟨t, e⟩ := hz2 j v (by simpa using hv)
      exact ⟨t, by rw [e]; congr 1; omega⟩)
    rwa [← List.range_eq_range'] at this
  refine .list (vs := acc.toList) (n := c) (hideAll_get _ (by simpa using hl) fun q => ?_) hvals
  exact absurd ((F.up u).lt q) (Nat.not_lt.mpr (by show h₁.objs.size ≤ (h₁.push _).objs.size; rw [hsize]; exact Nat.le_succ _))
end
end Mine

namespace Mine
section
variable {W : Wd} {A : Around} {env : Env} {G : Cx}

theorem slice_hs (l : Addr) (sl : Addr) (lo hi : Option Expr) (p : Pos) : subscripted (.Slice lo hi none p) false (.ref l) (.ref sl) = operate [.ref sl, .ref l] (getItem (.ref l) (.ref sl)) := rfl

/-- xs[:k] -/
theorem ev_upto {e k : Expr} {p pos : Pos} {ds : List PyData} {n : Nat} (h : Ev W A env G e (.list ds)) (hk : Ev W A env G k (.int n)) (hz : ds.length ≤ sizeLine) :
    Ev W A env G (.Subscript e (.Slice none (some k) none p) pos) (.list (ds.take n)) := by
  intro bad s F B Q E hQ
  refine Subscript_ (h bad s F B _ _ fun v h₁ tk u r => ?_)
  refine wpAny_Slice ?_
  rw [evalPart_none, evalPart_some]
  refine wpAny_pure (hk bad _ (F.up u) (B.up u) _ _ fun v₂ h₂ tk₂ u₂ r₂ => ?_)
  refine wpAny_pure ?_
  obtain ⟨t, rfl⟩ := rp_int r₂
  obtain ⟨a, vs, m, rfl, ec, ea, _, rs⟩ := rp_list (r.up (u₂.keep _).cut)
  have hlen := rs.length
  have hl : Heap.IsList (h₂.push { cls := .type "slice", data := .fields #[.none, .int n t, .none] }) a vs.toArray := ⟨_, Heap.get?_push_of_some _ ea, rfl, m, rfl⟩
  refine tail_any (s := { s with heap := h₂.push { cls := .type "slice", data := .fields #[.none, .int n t, .none] }, toks := tk₂ }) (Heap.IsList.typeIs hl) list_getitem_lookup
    (wpAny_getItem_list_slice hl (Heap.IsSliceOf.new ..) .none (.int _ _) .none (by simp) ?_ (by simp; omega)) (slice_hs _ _ _ _ _)
  rw [slicePick_upto']
  have F₂ := (F.up u).up u₂
  have F₃ := F₂.up (Up.push h₂ { cls := .type "slice", data := .fields #[.none, .int n t, .none] })
  have r3 := rp_new_list F₃.fresh ((rs.take n).up (cut_push_up { cls := .type "slice", data := .fields #[.none, .int n t, .none] }))
  exact hQ _ _ tk₂ (((u.trans u₂).trans (Up.push _ _)).trans (Up.push _ _)) r3

/-- xs[k:] -/
theorem ev_from {e k : Expr} {p pos : Pos} {ds : List PyData} {n : Nat} (h : Ev W A env G e (.list ds)) (hk : Ev W A env G k (.int n)) (hz : ds.length ≤ sizeLine) :
    Ev W A env G (.Subscript e (.Slice (some k) none none p) pos) (.list (ds.drop n)) := by
  intro bad s F B Q E hQ
  refine Subscript_ (h bad s F B _ _ fun v h₁ tk u r => ?_)
  refine wpAny_Slice ?_
  rw [evalPart_none, evalPart_some]
  refine hk bad _ (F.up u) (B.up u) _ _ fun v₂ h₂ tk₂ u₂ r₂ => ?_
  refine wpAny_pure (wpAny_pure ?_)
  obtain ⟨t, rfl⟩ := rp_int r₂
  obtain ⟨a, vs, m, rfl, ec, ea, _, rs⟩ := rp_list (r.up (u₂.keep _).cut)
  have hlen := rs.length
  have hl : Heap.IsList (h₂.push { cls := .type "slice", data := .fields #[.int n t, .none, .none] }) a vs.toArray := ⟨_, Heap.get?_push_of_some _ ea, rfl, m, rfl⟩
  refine tail_any (s := { s with heap := h₂.push { cls := .type "slice", data := .fields #[.int n t, .none, .none] }, toks := tk₂ }) (Heap.IsList.typeIs hl) list_getitem_lookup
    (wpAny_getItem_list_slice hl (Heap.IsSliceOf.new ..) (.int _ _) .none .none (by simp) ?_ (by simp; omega)) (slice_hs _ _ _ _ _)
  rw [slicePick_from']
  have F₂ := (F.up u).up u₂
  have F₃ := F₂.up (Up.push h₂ { cls := .type "slice", data := .fields #[.int n t, .none, .none] })
  have r3 := rp_new_list F₃.fresh ((rs.drop n).up (cut_push_up { cls := .type "slice", data := .fields #[.int n t, .none, .none] }))
  exact hQ _ _ tk₂ (((u.trans u₂).trans (Up.push _ _)).trans (Up.push _ _)) r3

theorem sliceApplied_rev2 {prog : Program} {w : World} {E : Value → Shared → Prop} {s : Shared} {sl : Addr} {u : Tok} {Q : Int × Int × Nat → Shared → Prop} (hs : s.heap.IsSliceOf sl .none .none (.int (-1) u)) (h : Q ((1 : Int), -1, 2) s) :
    wpAny (model prog w) A (Builtin.Slice.sliceApplied (.ref sl) (pure (2 : Int))) Q E s := by
  obtain ⟨os, hos, hcs, hds⟩ := id hs
  unfold Builtin.Slice.sliceApplied Builtin.Slice.sliceFields
  refine wpAny_bind (wpAny_bind (wpAny_field hos hds (x := .none) rfl (wpAny_bind (wpAny_field hos hds (x := .none) rfl (wpAny_bind (wpAny_field hos hds (x := .int (-1) u) rfl (wpAny_pure ?_)))))))
  refine wpAny_bind (slicePart_int ?_)
  show wpAny _ _ (if ((-1 : Int) == 0) = true then _ else _) _ _ s
  rw [if_neg (by decide)]
  refine wpAny_bind (slicePart_none (wpAny_bind (slicePart_none (wpAny_bind (wpAny_pure ?_)))))
  exact wpAny_pure h

/-- pair[::-1] -/
theorem ev_rev2 {e : Expr} {k : Nat} {p p1 p2 pos : Pos} {d₁ d₂ : PyData} (h : Ev W A env G e (.tuple [d₁, d₂])) :
    Ev W A env G (.Subscript e (.Slice none none (some (.UnaryOp .USub (.Constant (.int 1) k p1) p2)) p) pos) (.tuple [d₂, d₁]) := by
  intro bad s F B Q E hQ
  refine Subscript_ (h bad s F B _ _ fun v h₂ tk u r => ?_)
  refine wpAny_Slice ?_
  rw [evalPart_none, evalPart_some]
  refine wpAny_pure (wpAny_pure (wpAny_UnaryOp (wpAny_Constant_int (PyProof.Rows.neg_int ?_))))
  obtain ⟨a, vs, m, rfl, ec, ea, _, rs⟩ := rp_tuple r
  cases rs with
  | cons r1 rs =>
  cases rs with
  | cons r2 rs =>
  cases rs
  rename_i v1 v2
  generalize htk : (tk + 1 : Nat) = tk'
  have ht : IsTup (h₂.push { cls := .type "slice", data := .fields #[.none, .none, .int (-1) tk'] }) a #[v1, v2] := ⟨_, Heap.get?_push_of_some _ ea, rfl, m, rfl⟩
  have hsl : (h₂.push { cls := .type "slice", data := .fields #[.none, .none, .int (-1) tk'] }).IsSliceOf h₂.objs.size .none .none (.int (-1) tk') := Heap.IsSliceOf.new ..
  have F₃ := (F.up u).up (Up.push h₂ { cls := .type "slice", data := .fields #[.none, .none, .int (-1) tk'] })
  have htT' : ∀ tk'', Shared.TypeIs { s with heap := h₂.push { cls := .type "slice", data := .fields #[.none, .none, .int (-1) tk'] }, toks := tk'' } (.ref a) "tuple" := fun tk'' => IsTup.typeIs (s := { s with heap := h₂.push { cls := .type "slice", data := .fields #[.none, .none, .int (-1) tk'] }, toks := tk'' }) ht
  have key : ∀ tk'', wpAny (model W.prog W.w) A (getItem (.ref a) (.ref h₂.objs.size)) Q E { s with heap := h₂.push { cls := .type "slice", data := .fields #[.none, .none, .int (-1) tk'] }, toks := tk'' } := by
    intro tk''
    obtain ⟨os, hos, hcs, hds⟩ := id hsl
    have hTs : Shared.TypeIs { s with heap := h₂.push { cls := .type "slice", data := .fields #[.none, .none, .int (-1) tk'] }, toks := tk'' } (.ref h₂.objs.size) "slice" := ⟨os, hos, hcs⟩
    have r3 := rp_new_tuple F₃.fresh (((Rps.one r2).append (Rps.one r1)).up (cut_push_up { cls := .type "slice", data := .fields #[.none, .none, .int (-1) tk'] }))
    have fin := hQ _ _ tk'' ((u.trans (Up.push _ _)).trans (Up.push _ _)) r3
    have htT := htT' tk''
    unfold getItem
    try with_reducible refine wpAny_holding ?_
    first | refine wpAny_bind (wpAny_pure ?_) | skip
    refine wpAny_bind (wpAny_sequenceKey htT (by decide) ?_)
    refine wpAny_bind (wpAny_callSpecial?_slot (name := Str.ofString "__getitem__") htT slot_tuple_getitem
      (wpAny_call_entry slot_tuple_getitem htT entry_tuple_getitem ?_ (args_tuple_getitem _ _)))
    show wpAny _ _ (Builtin.Tuple.tupleItemsOf (.ref a) >>= _) _ _ _
    refine wpAny_bind (tupleItemsOf_ ht ?_)
    refine wpAny_bind (wpAny_typeOf hTs ?_)
    rw [if_pos (by decide)]
    refine wpAny_bind (sliceApplied_rev2 hsl ?_)
    show wpAny _ _ (if ((1 : Int) == 0 && (-1 : Int) == 1 && (2 : Nat) == 2) = true then _ else _) _ _ _
    rw [if_neg (by decide)]
    show wpAny _ _ (Builtin.Tuple.tupleExact #[v2, v1] >>= _) _ _ _
    first
      | exact wpAny_bind (m := Builtin.Tuple.tupleExact _) (wpAny_newObj_type (wpAny_pure ⟨_, rfl, wpAny_pure fin⟩) (by size_fits))
      | exact wpAny_bind (m := Builtin.Tuple.tupleExact _) (wpAny_newObj_type (wpAny_bind (wpAny_pure (wpAny_pure ⟨_, rfl, wpAny_pure fin⟩))) (by size_fits))
  exact tail_any (s := { s with heap := h₂.push { cls := .type "slice", data := .fields #[.none, .none, .int (-1) tk'] }, toks := tk' + 1 }) (htT' _) slot_tuple_getitem.lookup (key _) rfl
end
end Mine

namespace Mine

/-- room for n more frames -/
structure Room (A : Around) (n : Nat) : Prop where
  hd : A.handled = none
  dp : A.depth + n < recursionLimit
  un : A.units + 8 * n + 200 < cLine
theorem Room.deeper {A : Around} {n : Nat} (r : Room A (n + 1)) (env : Env) : Room (A.deeper env) n :=
  ⟨r.hd, by have := r.dp; show A.depth + 1 + n < _; omega, by have := r.un; show A.units + 3 + 8 * n + 200 < _; omega⟩
theorem Room.less {A : Around} {n m : Nat} (r : Room A n) (h : m ≤ n) : Room A m := ⟨r.hd, by have := r.dp; omega, by have := r.un; omega⟩
theorem Room.u65 {A : Around} {n : Nat} (r : Room A n) : A.units + 65 < cLine := by have := r.un; omega
theorem Room.u64 {A : Around} {n : Nat} (r : Room A n) : A.units + 64 < cLine := by have := r.un; omega

/-- a def of the module's top -/
structure FnIs (W : Wd) (f : Addr) (q : Str) (cd : Value) (params : List Str) (body : List Stmt) (scope : Scope) : Prop where
  ex : ∃ o fd, W.base.get? f = some o ∧ o.data = .func fd ∧ fd.body = .stmts body ∧ fd.scope = scope ∧ fd.globals = mainGlobals ∧ fd.closure = [] ∧ fd.qualname = q ∧ fd.code = cd ∧ fd.builtins = builtinsNs ∧
    ∀ vs : List Value, vs.length = params.length → bindArgs fd ⟨vs, []⟩ = pure (params.zip vs)
  code : W.base.CodeRec cd q
  kind : scope.kind = .function
  gen : scope.isGenerator = false
  co : scope.isCoroutine = false
  pk : ∀ x ∈ params, scope.names.lookup x = some .local ∨ scope.names.lookup x = some .cell

def mdFn (scope : Scope) (L : Addr) : List Addr := L :: (cellsFrom (L + 1) scope.names []).map (·.2)

section
variable {W : Wd} {A : Around} {env : Env}

theorem wp_binds {M : Model} {E : Value → Shared → Prop} {bad : List Addr} (hk : env.scope.kind = .function) : ∀ (names : List Str) (vs : List Value) (ds : List PyData) (G : Cx) (s : Shared) (h₀ : Heap) (Q : PUnit → Shared → Prop),
    (∀ x ∈ names, env.kindOf x = some .local ∨ (env.kindOf x = some .cell ∧ (env.cells.lookup x).isSome = true)) → names.length = vs.length → FS env bad G s.heap → Keep bad h₀ s.heap → (∀ b o, ¬ Own env b → h₀.get? b = some o → s.heap.get? b = some o) → Rps (cut h₀ bad) vs ds →
    (∀ h' tk, FS env bad ((names.zip ds).reverse ++ G) h' → (∀ b o, ¬ Own env b → h₀.get? b = some o → h'.get? b = some o) → Q ⟨⟩ { s with heap := h', toks := tk }) →
    wpAny M A (forIn (names.zip vs) PUnit.unit fun x _ => do storeName env x.1 x.2; pure (ForInStep.yield PUnit.unit)) Q E s
  | [], vs, ds, G, s, h₀, Q, _, hl, F, K, KF, r, hQ => by
    cases vs with
    | nil => cases r; rw [List.zip_nil_left, List.forIn_nil]; exact wpAny_pure (hQ s.heap s.toks F KF)
    | cons v vs => simp at hl
  | x :: names, vs, ds, G, s, h₀, Q, hx, hl, F, K, KF, r, hQ => by
    cases vs with
    | nil => simp at hl
    | cons v vs =>
      cases r with
      | cons r1 r2 =>
      rename_i d ds
      rw [List.zip_cons_cons, List.forIn_cons]
      refine wpAny_bind (wpAny_bind (F.store hk (hx x List.mem_cons_self) (r1.up K.cut) fun h' tk a F' hs ha => wpAny_pure ?_))
      have hao : Own env a := ha.elim .inl fun q => .inr ⟨x, q.2⟩
      refine wp_binds hk names vs ds ((x, d) :: G) _ h₀ _ (fun y hy => hx y (List.mem_cons_of_mem _ hy)) (by simpa using hl) F' (K.trans (Keep.of_same (F.ownBad hao) hs)) (fun b o hb e => (hs.2 b fun q => hb (q ▸ hao)).trans (KF b o hb e)) r2 fun h'' tk' F'' KF' => ?_
      exact hQ h'' tk' (by simpa using F'') KF'

theorem fn_enter {f : Addr} {q : Str} {cd : Value} {params : List Str} {body : List Stmt} {scope : Scope} {n : Nat} {vs : List Value} {ds : List PyData} {bad : List Addr} {s : Shared} {R : Result → Shared → Prop} (I : FnIs W f q cd params body scope) (lim : W.base.NoLimit) (rm : Room A (n + 1))
    (st : ∀ b ∈ bad, ∃ o, s.heap.get? b = some o) (B : Bs W bad s.heap) (hl : vs.length = params.length) (r : Rps (cut s.heap bad) vs ds)
    (h : ∀ L h' tk E, (∀ b ∈ mdFn scope L, s.heap.get? b = none) → Up s.heap h' → FS (envOfC q scope L f cd) (mdFn scope L ++ bad) (params.zip ds).reverse h' → Bs W (mdFn scope L ++ bad) h' →
      wpAny (model W.prog W.w) (A.deeper (envOfC q scope L f cd)) (execs body (envOfC q scope L f cd)) (fun fl s' => R (.ok (.ret (match fl with | .ret v => v | _ => .none))) s') E { s with heap := h', toks := tk }) :
    codeAny (model W.prog W.w) A (.call (.ref f) ⟨vs, []⟩) R s := by
  obtain ⟨o, fd, h1, h2, h3, rfl, h5, h6, rfl, rfl, h9, hb⟩ := I.ex
  refine codeAny_call_function (by have := rm.dp; omega) (B.full _ _ h1) h2 I.co I.gen h3 (I.code.keeps B.full) ?_
  rw [hb vs hl, h6, h5, h9]
  refine wpAny_pure ?_
  simp only [newFunctionEnv, Option.isSome_none, Bool.false_eq_true, if_false]
  refine wpAny_bind (wpAny_alloc ?_)
  refine wpAny_bind (wpAny_layCells _ (fun name kind cells => by cases hkc : kind == NameKind.cell <;> simp) _ _ _ _ ?_)
  rw [show ({ s with heap := s.heap.push { cls := .type "frame", data := .dict #[] } } : Shared).heap.objs.size = s.heap.objs.size + 1 from Heap.size_push ..]
  generalize hH3 : s.heap.push { cls := .type "frame", data := .dict #[] } = H3
  have hsz3 : H3.objs.size = s.heap.objs.size + 1 := by rw [← hH3]; exact Heap.size_push ..
  dsimp only
  generalize hH : pushCells H3 fd.scope.names = H
  have u3 : Up s.heap H3 := by rw [← hH3]; exact Up.push _ _
  have u4 : Up H3 H := by rw [← hH]; exact pushCells_keeps _ _
  have uS := u3.trans u4
  have okc := cellsFrom_ok fd.scope.names H3 H3.objs.size [] ⟨fun _ _ hm => (nomatch hm), List.Pairwise.nil⟩ (Nat.le_refl _)
  rw [hsz3, hH] at okc
  have fresh : ∀ b, s.heap.objs.size ≤ b → s.heap.get? b = none := fun b hb => by
    cases e : s.heap.get? b with
    | none => rfl
    | some o => exact absurd (Heap.lt_size e) (Nat.not_lt.mpr hb)
  have hC : H.Ns s.heap.objs.size fun _ => none := (by rw [← hH3]; exact Heap.Ns.new _ _ : H3.Ns s.heap.objs.size fun _ => none).keeps u4
  have mdNew : ∀ b ∈ mdFn fd.scope s.heap.objs.size, s.heap.objs.size ≤ b ∧ ∃ o, H.get? b = some o := fun b hb => by
    rcases List.mem_cons.mp hb with rfl | hb
    · exact ⟨Nat.le_refl _, let ⟨o, _, _, e, _⟩ := hC; ⟨o, e⟩⟩
    · obtain ⟨⟨n, c⟩, hm, rfl⟩ := List.mem_map.mp hb
      obtain ⟨⟨o, e, _⟩, hc⟩ := okc.empty n c hm
      exact ⟨by simp only; omega, o, e⟩
  have mdF : ∀ b ∈ mdFn fd.scope s.heap.objs.size, s.heap.get? b = none := fun b hb => fresh b (mdNew b hb).1
  have hcut : Up (cut s.heap bad) (cut H (mdFn fd.scope s.heap.objs.size ++ bad)) := (cut_add mdF).trans (uS.keep _).cut
  have F0 : FS (envOfC fd.qualname fd.scope s.heap.objs.size f fd.code) (mdFn fd.scope s.heap.objs.size ++ bad) [] H :=
    ⟨fun b hb => (List.mem_append.mp hb).elim (fun q => (mdNew b q).2) fun q => let ⟨o, e⟩ := st b q; ⟨o, uS b o e⟩, List.mem_append.mpr (.inl List.mem_cons_self),
      fun y c e => ⟨List.mem_append.mpr (.inl (List.mem_cons_of_mem _ (List.mem_map.mpr ⟨(y, c), mem_of_lookup e, rfl⟩))), _, (okc.empty y c (mem_of_lookup e)).1⟩,
      fun x y c ex ey => name_of_addr okc.apart (mem_of_lookup ex) (mem_of_lookup ey), ⟨_, hC, fun x d e _ => by simp at e⟩, fun x d e _ => by simp at e⟩
  have mdOwn : ∀ b, Own (envOfC fd.qualname fd.scope s.heap.objs.size f fd.code) b → b ∈ mdFn fd.scope s.heap.objs.size := fun b hb => by
    rcases hb with rfl | ⟨y, e⟩
    · exact List.mem_cons_self
    · exact List.mem_cons_of_mem _ (List.mem_map.mpr ⟨(y, b), mem_of_lookup e, rfl⟩)
  refine wpAny_bind (wp_binds (env := envOfC fd.qualname fd.scope s.heap.objs.size f fd.code) I.kind params vs ds [] { s with heap := H } H _ (fun x hx => ?_) hl.symm F0 (Keep.refl _ _) (fun b o _ e => e) (r.up hcut) fun h' tk F' KF => ?_)
  · rcases I.pk x hx with q | q
    · exact .inl q
    · refine .inr ⟨q, ?_⟩
      have key : ∀ (names : List (Str × NameKind)) (n : Nat) (acc : List (Str × Addr)), ((x, NameKind.cell) ∈ names ∨ (acc.lookup x).isSome = true) → ((cellsFrom n names acc).lookup x).isSome = true := by
        intro names
        induction names with
        | nil => intro n acc h; exact h.elim (fun q => nomatch q) id
        | cons y r ih =>
          intro n acc h
          obtain ⟨z, k⟩ := y
          unfold cellsFrom
          split
          · refine ih _ _ ?_
            by_cases hz : x = z
            · subst hz; right; simp
            · rcases h with h | h
              · rcases List.mem_cons.mp h with q | q
                · exact absurd (Prod.mk.inj q).1 hz
                · exact .inl q
              · right; rw [List.lookup_cons, beq_eq_false_iff_ne.mpr hz]; exact h
          · rename_i hk
            refine ih _ _ (h.imp (fun h => ?_) id)
            rcases List.mem_cons.mp h with q | q
            · exact absurd (by rw [← (Prod.mk.inj q).2]; rfl) hk
            · exact q
      exact key fd.scope.names _ [] (.inl (mem_of_lookup q))
  · refine wpAny_pure ?_
    have up' : Up s.heap h' := fun b o e => KF b o (fun q => by rw [mdF b (mdOwn b q)] at e; cases e) (uS b o e)
    rw [List.append_nil] at F'
    have B' : Bs W (mdFn fd.scope s.heap.objs.size ++ bad) h' := B.move ((cut_add mdF).trans (up'.keep _).cut)
    exact ⟨lim.keeps (B.full.trans up'), codeAny_func (h s.heap.objs.size h' tk _ mdF up' F' B')⟩
end
end Mine

namespace Mine

/-- a statement goes through to the next; the names hold `G'` then -/
def X (W : Wd) (A : Around) (env : Env) (md : List Addr) (G : Cx) (st : Stmt) (G' : Cx) : Prop :=
  ∀ (bad : List Addr) (s : Shared) (Q : Flow → Shared → Prop) (E : Value → Shared → Prop), FS env bad G s.heap → Bs W bad s.heap → (∀ b ∈ md, b ∈ bad) →
    (∀ h' tk, FS env bad G' h' → Bs W bad h' → Keep md s.heap h' → Q .next { s with heap := h', toks := tk }) → wpAny (model W.prog W.w) A (exec st env) Q E s
/-- so does a block -/
def Xs (W : Wd) (A : Around) (env : Env) (md : List Addr) (G : Cx) (sts : List Stmt) (G' : Cx) : Prop :=
  ∀ (bad : List Addr) (s : Shared) (Q : Flow → Shared → Prop) (E : Value → Shared → Prop), FS env bad G s.heap → Bs W bad s.heap → (∀ b ∈ md, b ∈ bad) →
    (∀ h' tk, FS env bad G' h' → Bs W bad h' → Keep md s.heap h' → Q .next { s with heap := h', toks := tk }) → wpAny (model W.prog W.w) A (execs sts env) Q E s
/-- a block that returns `r` -/
def Xr (W : Wd) (A : Around) (env : Env) (md : List Addr) (G : Cx) (sts : List Stmt) (r : PyData) : Prop :=
  ∀ (bad : List Addr) (s : Shared) (Q : Flow → Shared → Prop) (E : Value → Shared → Prop), FS env bad G s.heap → Bs W bad s.heap → (∀ b ∈ md, b ∈ bad) →
    (∀ v h' tk, Keep md s.heap h' → Rp (cut h' bad) v r → Q (.ret v) { s with heap := h', toks := tk }) → wpAny (model W.prog W.w) A (execs sts env) Q E s

/-- the frame's own addresses turn -/
structure OwnIn (env : Env) (md : List Addr) : Prop where
  l : env.locals ∈ md
  c : ∀ y c, env.cells.lookup y = some c → c ∈ md

section
variable {W : Wd} {A : Around} {env : Env} {md : List Addr} {G G' G'' : Cx}

theorem xs_nil : Xs W A env md G [] G := fun bad s Q E F B _ hQ => wpAny_execs_nil (hQ s.heap s.toks F B (Keep.refl _ _))
theorem xs_cons {st : Stmt} {sts : List Stmt} (h : X W A env md G st G') (k : Xs W A env md G' sts G'') : Xs W A env md G (st :: sts) G'' := by
  intro bad s Q E F B hm hQ
  refine wpAny_execs_cons (h bad s _ E F B hm fun h' tk F' B' K => ?_)
  exact k bad _ Q E F' B' hm fun h'' tk' F'' B'' K' => hQ h'' tk' F'' B'' (K.trans K')
theorem xr_cons {st : Stmt} {sts : List Stmt} {r : PyData} (h : X W A env md G st G') (k : Xr W A env md G' sts r) : Xr W A env md G (st :: sts) r := by
  intro bad s Q E F B hm hQ
  refine wpAny_execs_cons (h bad s _ E F B hm fun h' tk F' B' K => ?_)
  exact k bad _ Q E F' B' hm fun v h'' tk' K' r => hQ v h'' tk' (K.trans K') r
theorem xr_ret {e : Expr} {pos : Pos} {sts : List Stmt} {r : PyData} (h : Ev W A env G e r) : Xr W A env md G (.Return (some e) pos :: sts) r := by
  intro bad s Q E F B hm hQ
  refine wpAny_execs_cons (wpAny_Return_some (h bad s F B _ _ fun v h' tk u r => hQ v h' tk (u.keep _) r))
theorem xr_if_t {e : Expr} {b₁ b₂ sts : List Stmt} {pos : Pos} {r : PyData} (h : Et W A env G e true) (k : Xr W A env md G b₁ r) : Xr W A env md G (.If e b₁ b₂ pos :: sts) r := by
  intro bad s Q E F B hm hQ
  refine wpAny_execs_cons (wpAny_If (h bad s _ _ F B fun h' tk u => ?_))
  refine k bad _ _ E (F.up u) (B.up u) hm fun v h'' tk' K r => hQ v h'' tk' ((u.keep _).trans K) r
theorem x_if_f {e : Expr} {b₁ b₂ : List Stmt} {pos : Pos} (h : Et W A env G e false) (k : Xs W A env md G b₂ G') : X W A env md G (.If e b₁ b₂ pos) G' := by
  intro bad s Q E F B hm hQ
  refine wpAny_If (h bad s _ _ F B fun h' tk u => ?_)
  exact k bad _ _ E (F.up u) (B.up u) hm fun h'' tk' F' B' K => hQ h'' tk' F' B' ((u.keep _).trans K)
theorem x_if_t {e : Expr} {b₁ b₂ : List Stmt} {pos : Pos} (h : Et W A env G e true) (k : Xs W A env md G b₁ G') : X W A env md G (.If e b₁ b₂ pos) G' := by
  intro bad s Q E F B hm hQ
  refine wpAny_If (h bad s _ _ F B fun h' tk u => ?_)
  exact k bad _ _ E (F.up u) (B.up u) hm fun h'' tk' F' B' K => hQ h'' tk' F' B' ((u.keep _).trans K)

theorem own_keep {bad : List Addr} {h h' : Heap} {a : Addr} {x : Str} (O : OwnIn env md) (hs : Heap.SameBut a h h') (ha : a = env.locals ∨ (env.kindOf x = some .cell ∧ env.cells.lookup x = some a)) : Keep md h h' :=
  Keep.of_same (ha.elim (fun q => q ▸ O.l) fun q => O.c x a q.2) hs

theorem x_assign {x : Str} {p pos : Pos} {e : Expr} {d : PyData} (O : OwnIn env md) (hk : env.scope.kind = .function) (hx : env.kindOf x = some .local ∨ (env.kindOf x = some .cell ∧ (env.cells.lookup x).isSome = true))
    (h : Ev W A env G e d) (hs : swapsWith e (some (.Name x p)) pos.line env = pure false := by rfl) : X W A env md G (.Assign [.Name x p] e pos) ((x, d) :: G) := by
  intro bad s Q E F B hm hQ
  refine wpAny_Assign_Name (h bad s F B _ _ fun v h' tk u r => ?_) hs
  refine (F.up u).store hk hx r fun h'' tk' a F' hs' ha => ?_
  have K := own_keep (bad := bad) O hs' ha
  exact hQ h'' tk' F' ((B.up u).keep (K.more hm)) ((u.keep _).trans K)

theorem x_aug {x : Str} {p pos : Pos} {op : Operator} {e : Expr} {d₀ d₁ d : PyData} (O : OwnIn env md) (hk : env.scope.kind = .function) (hx : env.kindOf x = some .local) (hG : G.lookup x = some d₀)
    (h : Ev W A env G e d₁) (hop : ∀ (bad : List Addr) (s : Shared) (v₁ v₂ : Value), FS env bad G s.heap → Bs W bad s.heap → Rp (cut s.heap bad) v₁ d₀ → Rp (cut s.heap bad) v₂ d₁ → Gives W A (inplaceOp op v₁ v₂) bad s d) :
    X W A env md G (.AugAssign (.Name x p) op e pos) ((x, d) :: G) := by
  intro bad s Q E F B hm hQ
  refine wpAny_AugAssign_Name ?_
  obtain ⟨m, n, r⟩ := F.loc
  obtain ⟨v₀, e1, e2⟩ := r x d₀ hG hx
  refine wpAny_loadName_local hk hx n e1 (h bad s F B _ _ fun v h' tk u r => ?_)
  refine hop bad _ v₀ v (F.up u) (B.up u) (e2.up (u.keep _).cut) r _ _ fun w h'' tk' u' r' => ?_
  refine ((F.up u).up u').store hk (.inl hx) r' fun h₃ tk₃ a F' hs' ha => ?_
  have K := own_keep (bad := bad) O hs' ha
  exact hQ h₃ tk₃ F' (((B.up u).up u').keep (K.more hm)) (((u.trans u').keep _).trans K)

/-- from a comprehension's store -/
theorem x_of_comp {st : Stmt} {y : Str} {d : PyData} (O : OwnIn env md)
    (h : ∀ (bad : List Addr) (s : Shared) (Q : Flow → Shared → Prop) (E : Value → Shared → Prop), FS env bad G s.heap → Bs W bad s.heap →
      (∀ h' tk, FS env bad ((y, d) :: G) h' → Keep [env.locals] s.heap h' → Q .next { s with heap := h', toks := tk }) → wpAny (model W.prog W.w) A (exec st env) Q E s) :
    X W A env md G st ((y, d) :: G) := by
  intro bad s Q E F B hm hQ
  refine h bad s Q E F B fun h' tk F' K => ?_
  have K' : Keep md s.heap h' := K.more fun b hb => by rw [List.mem_singleton.mp hb]; exact O.l
  exact hQ h' tk F' (B.keep (K'.more hm)) K'

theorem X.say {st : Stmt} {G₁ : Cx} (h : X W A env md G st G') (hs : ∀ x d, G₁.lookup x = some d → G'.lookup x = some d) : X W A env md G st G₁ :=
  fun bad s Q E F B hm hQ => h bad s Q E F B hm fun h' tk F' B' K => hQ h' tk (F'.say hs) B' K
theorem Xs.say {sts : List Stmt} {G₁ : Cx} (h : Xs W A env md G sts G') (hs : ∀ x d, G₁.lookup x = some d → G'.lookup x = some d) : Xs W A env md G sts G₁ :=
  fun bad s Q E F B hm hQ => h bad s Q E F B hm fun h' tk F' B' K => hQ h' tk (F'.say hs) B' K
theorem Xs.pre {sts : List Stmt} {G₁ : Cx} (h : Xs W A env md G sts G') (hs : ∀ x d, G.lookup x = some d → G₁.lookup x = some d) : Xs W A env md G₁ sts G' :=
  fun bad s Q E F B hm hQ => h bad s Q E (F.say hs) B hm hQ

/-- with a state of its own: what is said of the object at `D` -/
def XT (W : Wd) (A : Around) (env : Env) (md : List Addr) (G : Cx) (T : List Addr → Heap → Prop) (st : Stmt) (G' : Cx) (T' : List Addr → Heap → Prop) : Prop :=
  ∀ (bad : List Addr) (s : Shared) (Q : Flow → Shared → Prop) (E : Value → Shared → Prop), FS env bad G s.heap → T bad s.heap → Bs W bad s.heap → (∀ b ∈ md, b ∈ bad) →
    (∀ h' tk, FS env bad G' h' → T' bad h' → Bs W bad h' → Keep md s.heap h' → Q .next { s with heap := h', toks := tk }) → wpAny (model W.prog W.w) A (exec st env) Q E s
def XTs (W : Wd) (A : Around) (env : Env) (md : List Addr) (G : Cx) (T : List Addr → Heap → Prop) (sts : List Stmt) (G' : Cx) (T' : List Addr → Heap → Prop) : Prop :=
  ∀ (bad : List Addr) (s : Shared) (Q : Flow → Shared → Prop) (E : Value → Shared → Prop), FS env bad G s.heap → T bad s.heap → Bs W bad s.heap → (∀ b ∈ md, b ∈ bad) →
    (∀ h' tk, FS env bad G' h' → T' bad h' → Bs W bad h' → Keep md s.heap h' → Q .next { s with heap := h', toks := tk }) → wpAny (model W.prog W.w) A (execs sts env) Q E s
/-- it says what it says of `D` and of what does not turn -/
def Mv (T : List Addr → Heap → Prop) (D : Addr) : Prop := ∀ bad bad' h h', T bad h → Up (cut h bad) (cut h' bad') → (∀ o, h.get? D = some o → h'.get? D = some o) → T bad' h'
theorem Mv.triv {D : Addr} : Mv (fun _ _ => True) D := fun _ _ _ _ _ _ _ => trivial

theorem xts_nil {T : List Addr → Heap → Prop} : XTs W A env md G T [] G T := fun _ s _ _ F t B _ hQ => wpAny_execs_nil (hQ s.heap s.toks F t B (Keep.refl _ _))
theorem xts_cons {T T' T'' : List Addr → Heap → Prop} {st : Stmt} {sts : List Stmt} (h : XT W A env md G T st G' T') (k : XTs W A env md G' T' sts G'' T'') : XTs W A env md G T (st :: sts) G'' T'' := by
  intro bad s Q E F t B hm hQ
  refine wpAny_execs_cons (h bad s _ E F t B hm fun h' tk F' t' B' K => ?_)
  exact k bad _ Q E F' t' B' hm fun h'' tk' F'' t'' B'' K' => hQ h'' tk' F'' t'' B'' (K.trans K')
theorem xt_of_x {T : List Addr → Heap → Prop} {md₀ : List Addr} {D : Addr} {st : Stmt} (h : X W A env md₀ G st G') (M : Mv T D) (hs : ∀ b ∈ md₀, b ∈ md) (hD : D ∉ md₀) : XT W A env md G T st G' T := by
  intro bad s Q E F t B hm hQ
  refine h bad s Q E F B (fun b hb => hm b (hs b hb)) fun h' tk F' B' K => hQ h' tk F' (M _ _ _ _ t (K.more fun b hb => hm b (hs b hb)).cut fun o e => K D o hD e) B' (K.more hs)
theorem x_of_xt {st : Stmt} (h : XT W A env md G (fun _ _ => True) st G' (fun _ _ => True)) : X W A env md G st G' :=
  fun bad s Q E F B hm hQ => h bad s Q E F trivial B hm fun h' tk F' _ B' K => hQ h' tk F' B' K
theorem xts_of_xs {sts : List Stmt} (h : Xs W A env md G sts G') : XTs W A env md G (fun _ _ => True) sts G' (fun _ _ => True) :=
  fun bad s Q E F _ B hm hQ => h bad s Q E F B hm fun h' tk F' B' K => hQ h' tk F' trivial B' K

theorem xt_for {target iter : Expr} {body : List Stmt} {pos : Pos} {ds : List PyData} {Gi Gi' : Nat → Cx} {T : Nat → List Addr → Heap → Prop} {D : Addr}
    (M : ∀ i, Mv (T i) D) (hD : D ∈ md) (hO : ¬ Own env D ∨ ∀ i b h, T i b h) (hi : EvI W A env G target iter ds) (h0 : ∀ x d, (Gi 0).lookup x = some d → G.lookup x = some d)
    (asn : ∀ i d, ds[i]? = some d → As W A env (Gi i) target d (Gi' i) md) (hb : ∀ i d, ds[i]? = some d → XTs W A env md (Gi' i) (T i) body (Gi (i + 1)) (T (i + 1)))
    (hs : ∀ x, foldedSetIterable iter env x = pure x := by intro _; rfl) : XT W A env md G (T 0) (.For target iter body [] pos) (Gi ds.length) (T ds.length) := by
  intro bad s Q E F t B hm hQ
  refine wpAny_For (hi bad s _ _ F B fun I own St h₁ tk u hf st0 lv It => ?_) hs
  have hdis : ∀ b ∈ own, b ∉ bad := fun b hb q => by
    obtain ⟨o, e⟩ := F.stands b q
    rw [hf b hb] at e; cases e
  have It' := It (own ++ bad) (fun b hb => List.mem_append.mpr (.inl hb)) (fun b hb => List.mem_append.mpr (.inr hb)) fun b hb => (List.mem_append.mp hb).elim (fun q => .inr (.inl q)) .inl
  have uc : Up (cut s.heap bad) (cut h₁ (own ++ bad)) := (cut_add hf).trans (u.keep _).cut
  have hmb : ∀ b ∈ md, b ∈ own ++ bad := fun b hb => List.mem_append.mpr (.inr (hm b hb))
  have hob : ∀ b ∈ own, b ∈ own ++ bad := fun b hb => List.mem_append.mpr (.inl hb)
  have hmd : ∀ b ∈ own ++ md, b ∈ own ++ bad := fun b hb => (List.mem_append.mp hb).elim (hob b) (hmb b)
  have hDo : D ∉ own := fun q => hdis D q (hm D hD)
  refine codeAny_forLoop_any (fun n s' => ∃ h' tk j, s' = { s with heap := h', toks := tk } ∧ FS env (own ++ bad) (Gi j) h' ∧ T j (own ++ bad) h' ∧ St j h' ∧ Keep (own ++ md) s.heap h' ∧ Bs W (own ++ bad) h' ∧ j ≤ ds.length ∧ n = ds.length + 1 - j) ?_ (ds.length + 1)
    ⟨h₁, tk, 0, rfl, (F.grow u hf lv).say h0, M 0 _ _ _ _ t uc (fun o e => u D o e), st0, u.keep _, B.move uc, Nat.zero_le _, rfl⟩
  rintro n s' ⟨h, tk, j, rfl, Fj, Tj, Sj, Kj, Bj, hj, rfl⟩
  by_cases hlt : j < ds.length
  · have hdj : ds[j]? = some ds[j] := List.getElem?_eq_getElem hlt
    refine wpAny_mono (It'.item j ds[j] _ (fun v s₂ => wpAny (model W.prog W.w) A (assign target env v) (fun _ s₃ => wpAny (model W.prog W.w) A (execs body env) (fun f s₄ => f = .next ∧ ∃ m, m < ds.length + 1 - j ∧ ∃ h' tk j, s₄ = { s with heap := h', toks := tk } ∧ FS env (own ++ bad) (Gi j) h' ∧ T j (own ++ bad) h' ∧ St j h' ∧ Keep (own ++ md) s.heap h' ∧ Bs W (own ++ bad) h' ∧ j ≤ ds.length ∧ m = ds.length + 1 - j)
      (notedBy (model W.prog W.w) A env fun e s' => cameBackBy (model W.prog W.w) A env E e s') s₃) (notedBy (model W.prog W.w) A env fun e s' => cameBackBy (model W.prog W.w) A env E e s') s₂) _ hdj Sj Fj.stands fun v h₂ tk₂ K₂ S₂ r₂ => ?_) (fun r s₁ hr => ?_) fun _ _ e => e
    rotate_left
    · obtain ⟨v, rfl, h⟩ := hr
      refine wpAny_mono h (fun _ s₂ h₂ => wpAny_mono h₂ (fun _ s₃ h₃ => wpAny_mono h₃ (fun f s₄ h₄ => ?_) fun _ _ e => e) fun _ _ e => e) fun _ _ e => e
      obtain ⟨rfl, h₄⟩ := h₄
      exact h₄
    have kc := K₂.more hob
    have F₂ : FS env (own ++ bad) (Gi j) h₂ := Fj.move kc.cut (fun b o hb e => K₂ b o (fun q => hdis b q (F.ownBad hb)) e) (fun b hb => by
      rcases List.mem_append.mp hb with q | q
      · exact It'.live _ _ S₂ b q
      · obtain ⟨o, e⟩ := Fj.stands b hb
        exact ⟨o, K₂ b o (fun q' => hdis b q' q) e⟩) Fj.lbad fun y c e => (Fj.cbad y c e).1
    have T₂ : T j (own ++ bad) h₂ := M _ _ _ _ _ Tj kc.cut fun o e => K₂ D o hDo e
    refine asn j _ hdj (own ++ bad) _ v _ _ F₂ r₂ fun h₃ tk₃ F₃ K₃ O₃ => ?_
    have K₃' := K₃.more hmb
    have T₃ : T j (own ++ bad) h₃ := hO.elim (fun q => M _ _ _ _ _ T₂ K₃'.cut fun o e => O₃ D o q e) fun q => q _ _ _
    have S₃ : St (j + 1) h₃ := It'.frame _ _ _ S₂ (fun b o hb e => O₃ b o (fun q => hdis b hb (F.ownBad q)) e) K₃'
    refine hb j _ hdj (own ++ bad) _ _ _ F₃ T₃ ((Bj.keep kc).keep K₃') hmb fun h₄ tk₄ F₄ T₄ B₄ K₄ => ⟨rfl, ?_⟩
    refine ⟨ds.length + 1 - (j + 1), by omega, h₄, tk₄, j + 1, rfl, F₄, T₄, It'.frame _ _ _ S₃ (fun b o hb e => K₄ b o (fun q => hdis b hb (hm b q)) e) (K₄.more hmb), ?_, B₄, hlt, rfl⟩
    exact ((Kj.trans (K₂.more fun b hb => List.mem_append.mpr (.inl hb))).trans (K₃.more fun b hb => List.mem_append.mpr (.inr hb))).trans (K₄.more fun b hb => List.mem_append.mpr (.inr hb))
  · have hjn : j = ds.length := by omega
    subst hjn
    refine It'.done _ _ _ Sj fun h₂ tk₂ K₂ => ?_
    have Km : Keep md s.heap h₂ := fun b o hb e => by
      have hbo : b ∉ own := fun q => by rw [hf b q] at e; cases e
      exact K₂ b o hbo (Kj b o (fun q => (List.mem_append.mp q).elim hbo hb) e)
    have u2 : Up (cut h (own ++ bad)) (cut h₂ bad) := fun b o e => by
      obtain ⟨e1, e2⟩ := cut_get e
      exact hideAll_get bad (K₂ b o (fun q => e2 (List.mem_append.mpr (.inl q))) e1) fun q => e2 (List.mem_append.mpr (.inr q))
    have F₂ : FS env bad (Gi ds.length) h₂ := Fj.move u2 (fun b o hb e => K₂ b o (fun q => hdis b q (F.ownBad hb)) e) (fun b hb => by
      obtain ⟨o, e⟩ := Fj.stands b (List.mem_append.mpr (.inr hb))
      exact ⟨o, K₂ b o (fun q => hdis b q hb) e⟩) F.lbad fun y c e => (F.cbad y c e).1
    exact wpAny_execs_nil (hQ h₂ tk₂ F₂ (M _ _ _ _ _ Tj u2 fun o e => K₂ D o hDo e) (Bj.move u2) Km)
end
end Mine

namespace Mine

/-- a call of the def at `f` with `ds` gives `r`, within n frames -/
def FnC (W : Wd) (f : Addr) (n : Nat) (ds : List PyData) (r : PyData) : Prop :=
  ∀ (A : Around) (bad : List Addr) (s : Shared) (vs : List Value), Room A n → (∀ b ∈ bad, ∃ o, s.heap.get? b = some o) → Bs W bad s.heap → Rps (cut s.heap bad) vs ds → Gives W A (call (.ref f) vs) bad s r

section
variable {W : Wd} {A : Around} {env : Env} {md : List Addr} {G : Cx}

theorem fnAt_of {W : Wd} {f : Addr} {q : Str} {cd : Value} {params : List Str} {body : List Stmt} {scope : Scope} (I : FnIs W f q cd params body scope) {h : Heap} (u : Up W.base h) : FnAt f h := by
  obtain ⟨o, fd, h1, h2, _⟩ := I.ex
  obtain ⟨c, d, dt, sl⟩ := o
  simp only at h2
  subst h2
  exact ⟨c, d, fd, sl, u _ _ h1⟩

theorem ev_callF {x : Str} {p pos : Pos} {f : Addr} {n : Nat} {e : Expr} {es : List Expr} {ds : List PyData} {r : PyData} (g : Gl W env x (.ref f)) (hf : ∀ h, Up W.base h → FnAt f h) (hc : FnC W f n ds r) (rm : Room A n)
    (hs : Sp W A env G (e :: es) ds) (he : starEach (e :: es) env = (false, eval e env) :: starEach es env := by rfl) (hpl : (backTo pos (starEach es env)).any (·.1) = false := by rfl) (hd : (x == ("__debug__" : Str)) = false := by decide) :
    Ev W A env G (.Call (.Name x p) (e :: es) [] pos) r := by
  intro bad s F B Q E hQ
  refine Call_Name rfl (wp_global g B.full ?_ hd)
  refine callWith_F (hf _ B.full) ?_ he hpl
  refine hs pos bad s _ _ F B fun vs h' tk u rs => ⟨hf _ (B.up u).full, ?_⟩
  rw [List.nil_append]
  exact hc A bad _ vs rm (F.up u).stands (B.up u) rs Q E fun v h'' tk' u' r' => hQ v h'' tk' (u.trans u') r'

theorem fn_gives {f : Addr} {q : Str} {cd : Value} {params : List Str} {body : List Stmt} {scope : Scope} {n : Nat} {ds : List PyData} {r : PyData} (I : FnIs W f q cd params body scope) (lim : W.base.NoLimit) (hl : ds.length = params.length)
    (h : ∀ A L, Room A n → Xr W A (envOfC q scope L f cd) (mdFn scope L) (params.zip ds).reverse body r) : FnC W f (n + 1) ds r := by
  intro A bad s vs rm st B rs Q E hQ
  refine wpAny_call ?_
  refine fn_enter I lim rm st B (rs.length.trans hl) rs fun L h' tk E' hf u F' B' => ?_
  refine h _ L (rm.deeper _) _ _ _ _ F' B' (fun b hb => List.mem_append.mpr (.inl hb)) fun v h'' tk' K r' => ?_
  refine hQ v h'' tk' (fun b o e => K b o (fun q => by rw [hf b q] at e; cases e) (u b o e)) (r'.up (cut_less fun b hb => List.mem_append.mpr (.inr hb)))

theorem own_in {q : Str} {scope : Scope} {L f : Addr} {cd : Value} : OwnIn (envOfC q scope L f cd) (mdFn scope L) :=
  ⟨List.mem_cons_self, fun y c e => List.mem_cons_of_mem _ (List.mem_map.mpr ⟨(y, c), mem_of_lookup e, rfl⟩)⟩

/-- the data of the program's k-th statement, a def -/
def defAt (p : Program) (k : Nat) : List Str × List Stmt × Scope := match p.main.body[k]? with
  | some (.FunctionDef _ a b _ _ _ sc _ _ _) => (a.args.map (·.arg), b, sc)
  | _ => ([], [], { kind := .function, names := [], isGenerator := false, isCoroutine := false })
end
end Mine

namespace Mine
section
variable {W : Wd} {A : Around} {env : Env} {md : List Addr} {G : Cx}

theorem evn {x : Str} {pos : Pos} {d : PyData} (hx : G.lookup x = some d := by rfl) (hk : env.scope.kind = .function := by rfl)
    (hn : (env.kindOf x == some .local || (env.kindOf x == some .cell || env.kindOf x == some .free)) = true := by rfl) (hd : (x == ("__debug__" : Str)) = false := by decide) (hc : (x == ("__classdict__" : Str)) = false := by decide) :
    Ev W A env G (.Name x pos) d := by
  refine ev_name hx hk ?_ hd hc
  simpa using hn

theorem fgn {x : Str} {e : PyData} (h : G.lookup x = none := by rfl) : ∀ y d, G.lookup y = some d → ((x, e) :: G).lookup y = some d := fun y d hy => by
  rw [cx_cons]
  by_cases q : y = x
  · subst q; rw [h] at hy; cases hy
  · rw [if_neg q]; exact hy
theorem fgn2 {x x' : Str} {e e' : PyData} (h : G.lookup x = none := by rfl) (h' : ((x, e) :: G).lookup x' = none := by rfl) : ∀ y d, G.lookup y = some d → ((x', e') :: (x, e) :: G).lookup y = some d := fun y d hy => fgn h' y d (fgn h y d hy)

/-- targets within a comprehension -/
theorem asc {scope : Scope} {C D : Addr} {x : Str} {p : Pos} {d : PyData} (ok : compOk scope env = true := by rfl) (hx : (scope.names.lookup x == some .local || scope.names.lookup x == some .cell) = true := by rfl) :
    As W A (compE scope env C) G (.Name x p) d ((x, d) :: G) (mdOf scope C D) := as_comp ok (by simpa using hx)
theorem asc2 {scope : Scope} {C D : Addr} {x y : Str} {p p' : Pos} {d e : PyData} {k : Nat} {q : Pos} (hA : A.handled = none) (ok : compOk scope env = true := by rfl) (hx : (scope.names.lookup x == some .local || scope.names.lookup x == some .cell) = true := by rfl)
    (hy : (scope.names.lookup y == some .local || scope.names.lookup y == some .cell) = true := by rfl) :
    As W A (compE scope env C) G (.Tuple [.Name x p, .Name y p'] k q) (.tuple [d, e]) ((y, e) :: (x, d) :: G) (mdOf scope C D) := as_pair hA (as_comp ok (by simpa using hx)) (as_comp ok (by simpa using hy))

theorem sub_nil : ∀ x d, ([] : Cx).lookup x = some d → G.lookup x = some d := fun _ _ h => nomatch h
theorem sub_cons {x : Str} {d : PyData} {G₁ : Cx} (k : ∀ x d, G₁.lookup x = some d → G.lookup x = some d) (h : G.lookup x = some d := by rfl) : ∀ y e, ((x, d) :: G₁).lookup y = some e → G.lookup y = some e := fun y e hy => by
  rw [cx_cons] at hy
  by_cases q : y = x
  · rw [if_pos q] at hy; cases hy; rw [q]; exact h
  · rw [if_neg q] at hy; exact k y e hy
/-- a target at the frame's own level -/
theorem asl {x : Str} {p : Pos} {d : PyData} (O : OwnIn env md) (hk : env.scope.kind = .function := by rfl) (hx : (env.kindOf x == some .local || (env.kindOf x == some .cell && (env.cells.lookup x).isSome)) = true := by rfl) :
    As W A env G (.Name x p) d ((x, d) :: G) md := as_name hk (by simpa using hx) O.l fun c _ h => O.c x c h
theorem asl2 {x y : Str} {p p' : Pos} {d e : PyData} {k : Nat} {q : Pos} (hA : A.handled = none) (O : OwnIn env md) (hk : env.scope.kind = .function := by rfl) (hx : (env.kindOf x == some .local || (env.kindOf x == some .cell && (env.cells.lookup x).isSome)) = true := by rfl)
    (hy : (env.kindOf y == some .local || (env.kindOf y == some .cell && (env.cells.lookup y).isSome)) = true := by rfl) :
    As W A env G (.Tuple [.Name x p, .Name y p'] k q) (.tuple [d, e]) ((y, e) :: (x, d) :: G) md := as_pair hA (asl O hk hx) (asl O hk hy)
/-- a loop without a state of its own -/
theorem xf {target it : Expr} {body : List Stmt} {pos : Pos} {ds : List PyData} (Gi Gi' : Nat → Cx) (O : OwnIn env md) (hi : EvI W A env G target it ds) (h0 : ∀ x d, (Gi 0).lookup x = some d → G.lookup x = some d)
    (asn : ∀ i d, ds[i]? = some d → As W A env (Gi i) target d (Gi' i) md) (hb : ∀ i d, ds[i]? = some d → Xs W A env md (Gi' i) body (Gi (i + 1)))
    (hs : ∀ x, foldedSetIterable it env x = pure x := by intro _; rfl) : X W A env md G (.For target it body [] pos) (Gi ds.length) :=
  x_of_xt (xt_for (T := fun _ _ _ => True) (D := env.locals) (fun _ => Mv.triv) O.l (.inr fun _ _ _ => trivial) hi h0 asn (fun i d h => xts_of_xs (hb i d h)) hs)

variable {elt iter : Expr} {ifs : List Expr} {gs : List Comprehension} {scope : Scope} {pos : Pos}
/-- [.. for x in it ..] -/
theorem ec {α : Type} (xs : List α) (enc : α → PyData) (outs : α → List PyData) {x : Str} {p : Pos} (hi : EvI W A env G (.Name x p) iter (xs.map enc))
    (body : ∀ C D, ∀ a ∈ xs, Body W A (compE scope env C) elt (⟨.Name x p, iter, ifs, 0⟩ :: gs) scope pos D (mdOf scope C D) ifs 0 ((x, enc a) :: down scope G) (outs a))
    (hz : (xs.flatMap outs).length ≤ sizeLine) (hp : plainNext (⟨.Name x p, iter, ifs, 0⟩ :: gs) 0 := by intro g h; first | (cases h; done) | (cases h; exact ⟨rfl, fun _ _ => rfl⟩))
    (ok : compOk scope env = true := by rfl) (hx : (scope.names.lookup x == some .local || scope.names.lookup x == some .cell) = true := by rfl) (hn : (down scope G).lookup x = none := by rfl) (hs : ∀ env x, foldedSetIterable iter env x = pure x := by intro _ _; rfl) :
    Ev W A env G (.ListComp elt (⟨.Name x p, iter, ifs, 0⟩ :: gs) scope pos) (.list (xs.flatMap outs)) :=
  ev_comp ok hp hi (fun _ _ _ _ => asc ok hx) (fun _ _ => fgn hn) body hz hs
/-- [.. for x, y in it ..] -/
theorem ec2 {α : Type} (xs : List α) (enc₁ enc₂ : α → PyData) (outs : α → List PyData) {x y : Str} {p p' : Pos} {k : Nat} {q : Pos} (hA : A.handled = none) (hi : EvI W A env G (.Tuple [.Name x p, .Name y p'] k q) iter (xs.map fun a => .tuple [enc₁ a, enc₂ a]))
    (body : ∀ C D, ∀ a ∈ xs, Body W A (compE scope env C) elt (⟨.Tuple [.Name x p, .Name y p'] k q, iter, ifs, 0⟩ :: gs) scope pos D (mdOf scope C D) ifs 0 ((y, enc₂ a) :: (x, enc₁ a) :: down scope G) (outs a))
    (hz : (xs.flatMap outs).length ≤ sizeLine) (hp : plainNext (⟨.Tuple [.Name x p, .Name y p'] k q, iter, ifs, 0⟩ :: gs) 0 := by intro g h; first | (cases h; done) | (cases h; exact ⟨rfl, fun _ _ => rfl⟩))
    (ok : compOk scope env = true := by rfl) (hx : (scope.names.lookup x == some .local || scope.names.lookup x == some .cell) = true := by rfl) (hy : (scope.names.lookup y == some .local || scope.names.lookup y == some .cell) = true := by rfl)
    (hn : (down scope G).lookup x = none := by rfl) (hn' : ((x, PyData.none) :: down scope G).lookup y = none := by rfl) (hs : ∀ env x, foldedSetIterable iter env x = pure x := by intro _ _; rfl) :
    Ev W A env G (.ListComp elt (⟨.Tuple [.Name x p, .Name y p'] k q, iter, ifs, 0⟩ :: gs) scope pos) (.list (xs.flatMap outs)) :=
  ev_comp ok hp hi (fun _ _ _ _ => asc2 hA ok hx hy) (fun a _ => fgn2 hn (by
    rw [cx_cons] at hn' ⊢
    split at hn'
    · cases hn'
    · rename_i hne; rw [if_neg hne]; exact hn')) body hz hs
/-- y = [.. for x in it ..] -/
theorem xc {α : Type} (xs : List α) (enc : α → PyData) (outs : α → List PyData) {x y : Str} {p py spos : Pos} (O : OwnIn env md) (hi : EvI W A env G (.Name x p) iter (xs.map enc))
    (body : ∀ C D, ∀ a ∈ xs, Body W A (compE scope env C) elt (⟨.Name x p, iter, ifs, 0⟩ :: gs) scope pos D (mdOf scope C D) ifs 0 ((x, enc a) :: down scope G) (outs a))
    (hz : (xs.flatMap outs).length ≤ sizeLine) (hp : plainNext (⟨.Name x p, iter, ifs, 0⟩ :: gs) 0 := by intro g h; first | (cases h; done) | (cases h; exact ⟨rfl, fun _ _ => rfl⟩))
    (ok : compOk scope env = true := by rfl) (hx : (scope.names.lookup x == some .local || scope.names.lookup x == some .cell) = true := by rfl) (hn : (down scope G).lookup x = none := by rfl) (hs : ∀ env x, foldedSetIterable iter env x = pure x := by intro _ _; rfl)
    (hsw : swapsWith (.ListComp elt (⟨.Name x p, iter, ifs, 0⟩ :: gs) scope pos) (some (.Name y py)) spos.line env = pure true := by rfl) (hk : env.scope.kind = .function := by rfl) (hy : env.kindOf y = some .local := by rfl) :
    X W A env md G (.Assign [.Name y py] (.ListComp elt (⟨.Name x p, iter, ifs, 0⟩ :: gs) scope pos) spos) ((y, .list (xs.flatMap outs)) :: G) :=
  x_of_comp O fun _ _ _ _ F B hQ => wp_assign_comp hsw hk hy ok hp hi (fun _ _ _ _ => asc ok hx) (fun _ _ => fgn hn) body hz F B hQ hs
/-- an inner clause -/
theorem ri {α : Type} (xs : List α) (enc : α → PyData) (outs : α → List PyData) {k : Nat} {gens : List Comprehension} {i' : Expr} {x : Str} {p : Pos} {C D : Addr} (hi : EvI W A (compE scope env C) G (.Name x p) i' (xs.map enc))
    (body : ∀ a ∈ xs, Body W A (compE scope env C) elt gens scope pos D (mdOf scope C D) ifs (k + 1) ((x, enc a) :: G) (outs a))
    (hn : gens[k + 1]? = some ⟨.Name x p, i', ifs, 0⟩ := by rfl) (hp : plainNext gens (k + 1) := by intro g h; first | (cases h; done) | (cases h; exact ⟨rfl, fun _ _ => rfl⟩))
    (ok : compOk scope env = true := by rfl) (hx : (scope.names.lookup x == some .local || scope.names.lookup x == some .cell) = true := by rfl) (hg : G.lookup x = none := by rfl) :
    Rest W A (compE scope env C) elt gens scope pos D (mdOf scope C D) k G (xs.flatMap outs) :=
  rest_inner hn hp hi (fun _ _ => asc ok hx) (fun _ _ => fgn hg) body
theorem rl {k : Nat} {gens : List Comprehension} {C D : Addr} {d : PyData} (h : Ev W A (compE scope env C) G elt d) (hn : gens[k + 1]? = none := by rfl) : Rest W A (compE scope env C) elt gens scope pos D (mdOf scope C D) k G [d] :=
  rest_last (List.mem_cons_of_mem _ List.mem_cons_self) hn h

/-- y = e -/
theorem xa {x : Str} {p pos : Pos} {e : Expr} {d : PyData} (O : OwnIn env md) (h : Ev W A env G e d) (hk : env.scope.kind = .function := by rfl) (hx : (env.kindOf x == some .local || (env.kindOf x == some .cell && (env.cells.lookup x).isSome)) = true := by rfl)
    (hs : swapsWith e (some (.Name x p)) pos.line env = pure false := by rfl) : X W A env md G (.Assign [.Name x p] e pos) ((x, d) :: G) := x_assign O hk (by simpa using hx) h hs

end

theorem le_line {n : Nat} (h : n ≤ 4000) : n ≤ sizeLine := Nat.le_trans h (by decide)
/-- data of at most k levels -/
def SH (k : Nat) (d : PyData) : Prop := d.canLay0 = true ∧ d.depth ≤ k
theorem SH.shaped {k : Nat} {d : PyData} (h : SH k d) (hk : k ≤ 64 := by decide) : SeqAt.shaped d = true := by
  unfold SeqAt.shaped
  rw [h.1, Bool.true_and]
  exact decide_eq_true (Nat.le_trans h.2 hk)
theorem sh_all {k : Nat} : ∀ {ds : List PyData}, (∀ d ∈ ds, SH k d) → PyData.canLayAll0 ds = true ∧ PyData.depthAll ds ≤ k
  | [], _ => ⟨rfl, by simp [PyData.depthAll]⟩
  | d :: ds, h => by
    obtain ⟨h1, h2⟩ := h d List.mem_cons_self
    obtain ⟨h3, h4⟩ := sh_all (fun d hd => h d (List.mem_cons_of_mem _ hd))
    exact ⟨by simp only [PyData.canLayAll0, h1, h3, Bool.and_self], by simp only [PyData.depthAll]; omega⟩
theorem sh_list {k : Nat} {ds : List PyData} (h : ∀ d ∈ ds, SH k d) : SH (k + 1) (.list ds) := ⟨by simpa only [PyData.canLay0] using (sh_all h).1, by have := (sh_all h).2; simp only [PyData.depth]; omega⟩
theorem sh_tuple {k : Nat} {ds : List PyData} (h : ∀ d ∈ ds, SH k d) : SH (k + 1) (.tuple ds) := ⟨by simpa only [PyData.canLay0] using (sh_all h).1, by have := (sh_all h).2; simp only [PyData.depth]; omega⟩
theorem sh_int {k : Nat} {i : Int} : SH k (.int i) := ⟨rfl, by simp [PyData.depth]⟩
theorem sh_bool {k : Nat} {i : Bool} : SH k (.bool i) := ⟨rfl, by simp [PyData.depth]⟩
theorem sh_lmap {α : Type} {k : Nat} {enc : α → PyData} {xs : List α} (h : ∀ x, SH k (enc x)) : SH (k + 1) (.list (xs.map enc)) := sh_list fun d hd => by
  obtain ⟨x, _, rfl⟩ := List.mem_map.mp hd
  exact h x

def encI (i : Nat) : PyData := .int (i : Int)
def encL (ps : List Nat) : PyData := .list (ps.map encI)
def encP (p : Nat × Nat) : PyData := .tuple [encI p.1, encI p.2]
theorem shI {k : Nat} (i : Nat) : SH k (encI i) := sh_int
theorem shL (ps : List Nat) : SH 1 (encL ps) := sh_lmap fun _ => shI _
theorem shLs (ps : List (List Nat)) : SH 2 (.list (ps.map encL)) := sh_lmap shL
theorem shP (p : Nat × Nat) : SH 1 (encP p) := sh_tuple fun d hd => by
  simp only [List.mem_cons, List.not_mem_nil, or_false] at hd
  rcases hd with rfl | rfl <;> exact shI _
theorem shPs (ps : List (Nat × Nat)) : SH 2 (.list (ps.map encP)) := sh_lmap shP

theorem eqv_I (a b : Nat) : PyData.eqv (encI a) (encI b) = decide (a = b) := by
  unfold encI
  simp only [PyData.eqv]
  by_cases h : a = b
  · subst h; simp
  · rw [decide_eq_false h]; simp; omega
theorem eqvAll_map {α : Type} [DecidableEq α] {enc : α → PyData} (h : ∀ a b, PyData.eqv (enc a) (enc b) = decide (a = b)) : ∀ xs ys : List α, PyData.eqvAll (xs.map enc) (ys.map enc) = decide (xs = ys)
  | [], [] => by simp [PyData.eqvAll]
  | [], _ :: _ => by simp [PyData.eqvAll]
  | _ :: _, [] => by simp [PyData.eqvAll]
  | x :: xs, y :: ys => by
    simp only [List.map_cons, PyData.eqvAll, h, eqvAll_map h xs ys]
    by_cases h1 : x = y <;> by_cases h2 : xs = ys <;> simp [h1, h2]
theorem eqv_map {α : Type} [DecidableEq α] {enc : α → PyData} (h : ∀ a b, PyData.eqv (enc a) (enc b) = decide (a = b)) (xs ys : List α) : PyData.eqv (.list (xs.map enc)) (.list (ys.map enc)) = decide (xs = ys) := by
  simp only [PyData.eqv]; exact eqvAll_map h xs ys
theorem eqv_L (a b : List Nat) : PyData.eqv (encL a) (encL b) = decide (a = b) := eqv_map eqv_I a b
theorem eqv_P (a b : Nat × Nat) : PyData.eqv (encP a) (encP b) = decide (a = b) := by
  obtain ⟨a, a'⟩ := a; obtain ⟨b, b'⟩ := b
  unfold encP
  simp only [PyData.eqv, PyData.eqvAll, eqv_I, Bool.and_true]
  by_cases h1 : a = b <;> by_cases h2 : a' = b' <;> simp [h1, h2]
theorem eqv_nil {α : Type} {enc : α → PyData} (xs : List α) : PyData.eqv (.list (xs.map enc)) (.list []) = decide (xs = []) := by
  cases xs <;> simp [PyData.eqv, PyData.eqvAll]
theorem any_map {α : Type} [DecidableEq α] {enc : α → PyData} (h : ∀ a b, PyData.eqv (enc a) (enc b) = decide (a = b)) (xs : List α) (y : α) : ((xs.map enc).any fun d => PyData.eqv d (enc y)) = decide (y ∈ xs) := by
  induction xs with
  | nil => simp
  | cons x xs ih =>
    rw [List.map_cons, List.any_cons, ih, h]
    by_cases h1 : x = y
    · subst h1; simp
    · by_cases h2 : y ∈ xs <;> simp [h1, h2, Ne.symm h1]
theorem flatMap_one {α β : Type} (f : α → β) (xs : List α) : (xs.flatMap fun a => [f a]) = xs.map f := by induction xs <;> simp_all
theorem flatMap_if {α β : Type} (p : α → Bool) (f : α → β) (xs : List α) : (xs.flatMap fun a => if p a then [f a] else []) = (xs.filter p).map f := by
  induction xs with
  | nil => rfl
  | cons x xs ih => cases h : p x <;> simp_all [List.filter_cons]
section
variable {W : Wd} {A : Around} {env : Env} {md : List Addr} {G : Cx}
theorem er1 {target e : Expr} {x : Str} {p pos : Pos} {n : Nat} (hA : A.handled = none) (g : Gl W env x (.type "range")) (h : Ev W A env G e (encI n)) (h1 : n ≤ 4000)
    (he : starEach [e] env = [(false, eval e env)] := by rfl) (hd : (x == ("__debug__" : Str)) = false := by decide) :
    EvI W A env G target (.Call (.Name x p) [e] [] pos) ((List.range n).map encI) := evi_range1 hA g h (by omega) (by omega) he hd
theorem er2 {target e₁ e₂ : Expr} {x : Str} {p pos : Pos} {a b : Nat} (hA : A.handled = none) (g : Gl W env x (.type "range")) (h₁ : Ev W A env G e₁ (encI a)) (h₂ : Ev W A env G e₂ (encI b)) (h1 : a ≤ 4000) (h2 : b ≤ 4000)
    (he : starEach [e₁, e₂] env = [(false, eval e₁ env), (false, eval e₂ env)] := by rfl) (he' : starEach [e₂] env = [(false, eval e₂ env)] := by rfl) (hd : (x == ("__debug__" : Str)) = false := by decide) :
    EvI W A env G target (.Call (.Name x p) [e₁, e₂] [] pos) ((List.range' a (b - a)).map encI) := by
  have := evi_range2 (target := target) (p := p) (pos := pos) hA g h₁ h₂ (by omega) (by omega) (by omega) (by omega) he he' hd
  rw [show ((b : Int) - (a : Int)).toNat = b - a by omega] at this
  rw [List.range'_eq_map_range, List.map_map]
  exact this
theorem el {α : Type} {x : Str} {p pos : Pos} {e : Expr} {xs : List α} {enc : α → PyData} (g : Gl W env x (.builtin "len")) (h : Ev W A env G e (.list (xs.map enc))) (hf : xs.length ≤ 4000)
    (he : starEach [e] env = [(false, eval e env)] := by rfl) (hd : (x == ("__debug__" : Str)) = false := by decide) : Ev W A env G (.Call (.Name x p) [e] [] pos) (encI xs.length) := by
  have := ev_len (pos := pos) (p := p) g h (by rw [List.length_map]; omega) he hd
  rw [List.length_map] at this
  exact this
/-- a natural number's literal -/
theorem eI {i k : Nat} {pos : Pos} : Ev W A env G (.Constant (.int (i : Int)) k pos) (encI i) := ev_int
theorem eAdd {e₁ e₂ : Expr} {pos : Pos} {a b : Nat} (h₁ : Ev W A env G e₁ (encI a)) (h₂ : Ev W A env G e₂ (encI b)) : Ev W A env G (.BinOp e₁ .Add e₂ pos) (encI (a + b)) := by
  have := ev_add (pos := pos) h₁ h₂
  unfold encI
  rw [Int.natCast_add]; exact this
/-- (x, y) -/
theorem eP {e₁ e₂ : Expr} {k : Nat} {pos : Pos} {a b : Nat} (h₁ : Ev W A env G e₁ (encI a)) (h₂ : Ev W A env G e₂ (encI b))
    (he : starEach [e₁, e₂] env = [(false, eval e₁ env), (false, eval e₂ env)] := by rfl) (he' : starEach [e₂] env = [(false, eval e₂ env)] := by rfl) : Ev W A env G (.Tuple [e₁, e₂] k pos) (encP (a, b)) :=
  ev_tuple (sp_cons h₁ (sp_cons h₂ sp_nil he') (by rw [he, he'])) (le_line (show 2 ≤ 4000 by decide))
/-- xs[i] -/
theorem eIt {e i : Expr} {pos : Pos} {ps : List Nat} {k : Nat} (h₁ : Ev W A env G e (encL ps)) (h₂ : Ev W A env G i (encI k)) (hk : k < ps.length) (hl : ps.length ≤ 4000)
    (hs : ∀ o t, subscripted i false (.ref o) (.int (k : Int) t) = operate [.ref o, .int (k : Int) t] (getItem (.ref o) (.int (k : Int) t)) := by intro _ _; with_unfolding_all rfl) : Ev W A env G (.Subscript e i pos) (encI (ps.getD k 0)) :=
  ev_item h₁ h₂ (by omega) (by omega) (by rw [Int.toNat_natCast, List.getElem?_map, List.getElem?_eq_getElem hk, List.getD_eq_getElem?_getD, List.getElem?_eq_getElem hk]; rfl) hs
/-- p in beat, as a test's part -/
theorem cIn {A : Around} {p : Nat × Nat} {beat : List (Nat × Nat)} (rm : A.units + 65 < cLine) : CmpG W A .In (encP p) (.list (beat.map encP)) (decide (p ∈ beat)) := cmp_in (shPs beat).shaped (shP p).shaped rm ((any_map eqv_P beat p).trans (decide_eq_decide.mpr Iff.rfl))
theorem cNotIn {A : Around} {p : Nat × Nat} {beat : List (Nat × Nat)} (rm : A.units + 65 < cLine) : CmpG W A .NotIn (encP p) (.list (beat.map encP)) (!decide (p ∈ beat)) := cmp_notIn (shPs beat).shaped (shP p).shaped rm ((any_map eqv_P beat p).trans (decide_eq_decide.mpr Iff.rfl))
theorem cNil {α : Type} {A : Around} {xs : List α} {enc : α → PyData} (hs : ∀ x, SH 60 (enc x)) (rm : A.units + 64 < cLine) : CmpG W A .Eq (.list (xs.map enc)) (.list []) (decide (xs = [])) := cmp_eq (sh_lmap hs).shaped rfl rm (eqv_nil xs)
theorem eNil {pos : Pos} : Ev W A env G (.List [] pos) (.list []) := ev_list sp_nil (le_line (show 0 ≤ 4000 by decide))
/-- [x for x in it if test], by the numbers kept -/
theorem ecF {α β : Type} (xs : List α) (enc : α → PyData) (p : α → Bool) (g : α → β) (enc' : β → PyData) {elt iter c : Expr} {scope : Scope} {pos : Pos} {x : Str} {px : Pos} (hi : EvI W A env G (.Name x px) iter (xs.map enc)) (hl : xs.length ≤ 4000)
    (ht : ∀ C, ∀ a ∈ xs, Et W A (compE scope env C) ((x, enc a) :: down scope G) c (p a)) (he : ∀ C, ∀ a ∈ xs, p a = true → Ev W A (compE scope env C) ((x, enc a) :: down scope G) elt (enc' (g a)))
    (ok : compOk scope env = true := by rfl) (hx : (scope.names.lookup x == some .local || scope.names.lookup x == some .cell) = true := by rfl) (hn : (down scope G).lookup x = none := by rfl) (hs : ∀ env x, foldedSetIterable iter env x = pure x := by intro _ _; rfl) :
    Ev W A env G (.ListComp elt [⟨.Name x px, iter, [c], 0⟩] scope pos) (.list (((xs.filter p).map g).map enc')) := by
  have h := ec (G := G) (pos := pos) (gs := []) xs enc (fun a => if p a then [enc' (g a)] else []) hi (fun C D a ha => body1 (ht C a ha) fun h => rl (he C a ha h)) (by
    rw [flatMap_if, List.length_map]; exact le_line (Nat.le_trans (List.length_filter_le _ _) hl)) (by intro g h; cases h) ok hx hn hs
  rw [flatMap_if] at h
  rw [List.map_map]; exact h
/-- [e for x in it] -/
theorem ecM {α β : Type} (xs : List α) (enc : α → PyData) (g : α → β) (enc' : β → PyData) {elt iter : Expr} {scope : Scope} {pos : Pos} {x : Str} {px : Pos} (hi : EvI W A env G (.Name x px) iter (xs.map enc)) (hl : xs.length ≤ 4000)
    (he : ∀ C, ∀ a ∈ xs, Ev W A (compE scope env C) ((x, enc a) :: down scope G) elt (enc' (g a)))
    (ok : compOk scope env = true := by rfl) (hx : (scope.names.lookup x == some .local || scope.names.lookup x == some .cell) = true := by rfl) (hn : (down scope G).lookup x = none := by rfl) (hs : ∀ env x, foldedSetIterable iter env x = pure x := by intro _ _; rfl) :
    Ev W A env G (.ListComp elt [⟨.Name x px, iter, [], 0⟩] scope pos) (.list ((xs.map g).map enc')) := by
  have h := ec (G := G) (pos := pos) (gs := []) xs enc (fun a => [enc' (g a)]) hi (fun C D a ha => body0 (rl (he C a ha))) (by
    rw [flatMap_one, List.length_map]; exact le_line hl) (by intro g h; cases h) ok hx hn hs
  rw [flatMap_one] at h
  rw [List.map_map]; exact h
theorem xs_at {α : Type} {xs : List α} {enc : α → PyData} {i : Nat} {d : PyData} (h : (xs.map enc)[i]? = some d) : ∃ hi : i < xs.length, d = enc xs[i] := by
  have hi : i < xs.length := by
    have := (List.getElem?_eq_some_iff.mp h).1
    simpa using this
  refine ⟨hi, ?_⟩
  rw [List.getElem?_map, List.getElem?_eq_getElem hi] at h
  exact (Option.some.inj h).symm
end
end Mine

namespace Mine
open PySem.Challenge (pw_gf0002_01)

def orders : Nat → List Nat → List (List Nat)
  | 0, _ => [[]]
  | n + 1, ps => ps.flatMap fun one => (orders n (ps.filter (· != one))).map (one :: ·)

abbrev FnP (W : Wd) (k : Nat) (f : Addr) (q : Str) (cd : Value) : Prop := FnIs W f q cd (defAt pw_gf0002_01 k).1 (defAt pw_gf0002_01 k).2.1 (defAt pw_gf0002_01 k).2.2

theorem filter_len {ps : List Nat} {one : Nat} {n : Nat} (h : ps.length = n + 1) (nd : ps.Nodup) (hm : one ∈ ps) : (ps.filter (· != one)).length = n ∧ (ps.filter (· != one)).Nodup := by
  refine ⟨?_, nd.filter _⟩
  rw [← List.Nodup.erase_eq_filter nd]
  rw [List.length_erase_of_mem hm, h]; rfl
theorem orders_len : ∀ n ps, ps.length ≤ 5 → (orders n ps).length ≤ 5 ^ n
  | 0, _, _ => by simp [orders]
  | n + 1, ps, h => by
    unfold orders
    rw [List.length_flatMap]
    have key : ∀ qs : List Nat, (qs.map fun one => ((orders n (ps.filter (· != one))).map (one :: ·)).length).sum ≤ qs.length * 5 ^ n := by
      intro qs
      induction qs with
      | nil => simp
      | cons q qs ih =>
        have := orders_len n (ps.filter (· != q)) (Nat.le_trans (List.length_filter_le _ _) h)
        simp only [List.map_cons, List.sum_cons, List.length_map, List.length_cons, Nat.succ_mul] at ih ⊢
        omega
    refine Nat.le_trans (key ps) ?_
    rw [Nat.pow_succ, Nat.mul_comm]
    exact Nat.mul_le_mul (Nat.le_refl _) h

theorem orders_succ (n : Nat) (ps : List Nat) : orders (n + 1) ps = ps.flatMap fun one => (orders n (ps.filter (· != one))).map (one :: ·) := rfl
theorem orders_mem : ∀ n ps r, r ∈ orders n ps → r.length = n
  | 0, _, r, h => by simp [orders] at h; simp [h]
  | n + 1, ps, r, h => by
    rw [orders_succ, List.mem_flatMap] at h
    obtain ⟨one, _, h⟩ := h
    obtain ⟨rest, h', rfl⟩ := List.mem_map.mp h
    rw [List.length_cons, orders_mem n _ rest h']

theorem orders_ok {W : Wd} {mg : Str → Option Value} {f : Addr} {q : Str} {cd : Value} (O : WOk W mg) (I : FnP W 7 f q cd) (hg : mg "_law_orders" = some (.ref f)) :
    ∀ n ps, ps.length = n → ps.Nodup → n ≤ 5 → FnC W f (n + 1) [encL ps] (.list ((orders n ps).map encL)) := by
  intro n
  induction n with
  | zero =>
    intro ps h1 h2 h3
    refine fn_gives I O.lim rfl fun A L rm => ?_
    have e := (rfl : defAt pw_gf0002_01 7 = defAt pw_gf0002_01 7)
    conv at e => rhs; whnf
    rw [e]; clear e
    dsimp only
    refine xr_if_t (et_cmp (evn (d := encL ps)) (ev_list sp_nil (by decide)) (b := true) (cmp_eq (shL ps).shaped rfl rm.u64 ?_)) ?_
    · rw [List.length_eq_zero_iff.mp h1]; rfl
    · exact xr_ret (ev_list (ds := [.list []]) (sp_cons (ev_list sp_nil (by decide)) sp_nil) (by decide))
  | succ n ih =>
    intro ps h1 h2 h3
    refine fn_gives I O.lim rfl fun A L rm => ?_
    have e := (rfl : defAt pw_gf0002_01 7 = defAt pw_gf0002_01 7)
    conv at e => rhs; whnf
    rw [e]; clear e
    dsimp only
    refine xr_cons (x_if_f (et_cmp (evn (d := encL ps)) (ev_list sp_nil (by decide)) (b := false) (cmp_eq (shL ps).shaped rfl rm.u64 ?_)) xs_nil) (xr_ret ?_)
    · show PyData.eqv (.list (ps.map encI)) (.list []) = false
      rw [eqv_nil]; apply decide_eq_false; intro q; rw [q] at h1; simp at h1
    have hsz : (5 : Nat) ^ (n + 1) ≤ sizeLine := Nat.le_trans (Nat.pow_le_pow_right (by decide) h3) (by decide)
    have hA := rm.hd
    have e1 : (orders (n + 1) ps).map encL = ps.flatMap fun one => (orders n (ps.filter (· != one))).flatMap fun rest => [encL (one :: rest)] := by
      rw [orders_succ, List.map_flatMap]
      congr 1; funext one
      rw [flatMap_one, List.map_map]
      rfl
    rw [e1]
    refine ec ps encI _ (evi_list hA evn) (fun C D one hone => body0 (ri (orders n (ps.filter (· != one))) encL _ ?_ fun rest hr => body0 (rl ?_))) ?_
    · refine evi_list hA (ev_callF (gl_f O hg) (fun h => fnAt_of I) (ih _ (filter_len h1 h2 hone).1 (filter_len h1 h2 hone).2 (by omega)) rm (sp_cons (d := encL (ps.filter (· != one))) ?_ sp_nil))
      have e2 : encL (ps.filter (· != one)) = .list (ps.flatMap fun other => if (!PyData.eqv (encI other) (encI one)) then [encI other] else []) := by
        unfold encL
        rw [flatMap_if]
        congr 3
        funext x; rw [eqv_I]; by_cases h : x = one <;> simp [h]
      rw [e2]
      refine ec ps encI _ (evi_list hA evn) (fun C' D' other _ => body1 (et_cmp evn evn (cmp_ne (shI (k := 0) _).shaped (shI (k := 0) _).shaped rm.u64 rfl)) fun _ => rl evn) ?_
      rw [flatMap_if, List.length_map]
      exact Nat.le_trans (List.length_filter_le _ _) (by rw [h1]; exact Nat.le_trans h3 (by decide))
    · exact ev_addL (xs := [encI one]) (ys := rest.map encI) (ev_list (sp_cons evn sp_nil) (le_line (show 1 ≤ 4000 by decide))) evn (by rw [List.length_map, orders_mem _ _ _ hr]; exact Nat.le_trans (show 1 + n ≤ 5 by omega) (by decide))
    · rw [← e1, List.length_map]; exact Nat.le_trans (orders_len _ _ (by omega)) hsz
end Mine

namespace Mine
open PySem.Challenge (pw_gf0002_01)

/-- how many stand whom the one did not beat, nor those ahead of them -/
def place (beat : List (Nat × Nat)) (found : List Nat) (one : Nat) : List Nat :=
  (List.range found.length).filter fun k => ((List.range (k + 1)).filter fun j => decide ((one, found.getD j 0) ∈ beat)) = []
def rowStep (beat : List (Nat × Nat)) (found : List Nat) (one : Nat) : List Nat :=
  found.take (place beat found one).length ++ [one] ++ found.drop (place beat found one).length
def rowOf (beat : List (Nat × Nat)) (ps : List Nat) : List Nat := ps.foldl (rowStep beat) []
theorem rowStep_len (beat : List (Nat × Nat)) (found : List Nat) (one : Nat) : (rowStep beat found one).length = found.length + 1 := by
  unfold rowStep
  simp only [List.length_append, List.length_take, List.length_drop, List.length_cons, List.length_nil]
  omega
theorem rowFold_len (beat : List (Nat × Nat)) : ∀ (ps found : List Nat), (ps.foldl (rowStep beat) found).length = found.length + ps.length
  | [], _ => rfl
  | p :: ps, found => by rw [List.foldl_cons, rowFold_len beat ps, rowStep_len, List.length_cons]; omega

theorem rangeI (n : Nat) : ((List.range n).map fun i : Nat => PyData.int (i : Int)) = (List.range n).map encI := rfl

theorem row_ok {W : Wd} {mg : Str → Option Value} {f : Addr} {q : Str} {cd : Value} (O : WOk W mg) (I : FnP W 8 f q cd) (hlen : mg "len" = none) (hrange : mg "range" = none) (ps : List Nat) (beat : List (Nat × Nat)) (h1 : ps.length ≤ 5) (h2 : beat.length ≤ 10) :
    FnC W f 1 [encL ps, .list (beat.map encP)] (encL (rowOf beat ps)) := by
  refine fn_gives I O.lim rfl fun A L rm => ?_
  have e := (rfl : defAt pw_gf0002_01 8 = defAt pw_gf0002_01 8)
  conv at e => rhs; whnf
  rw [e]; clear e
  dsimp only
  have hA := rm.hd
  refine xr_cons (xa own_in (d := encL []) (ev_list sp_nil (le_line (show 0 ≤ 4000 by decide)))) ?_
  refine xr_cons (xf (ds := ps.map encI) (fun i => [("found", encL ((ps.take i).foldl (rowStep beat) [])), ("beat", .list (beat.map encP))])
    (fun i => [("one", encI (ps.getD i 0)), ("found", encL ((ps.take i).foldl (rowStep beat) [])), ("beat", .list (beat.map encP))]) own_in (evi_list hA evn)
    (sub_cons (sub_cons sub_nil)) (fun i d hd => ?_) (fun i d hd => ?_)) (xr_ret ?_)
  · have e1 : d = encI (ps.getD i 0) := by
      rw [List.getElem?_map] at hd
      rw [List.getD_eq_getElem?_getD]
      cases h : ps[i]? with
      | none => rw [h] at hd; cases hd
      | some p => rw [h] at hd; cases hd; rfl
    rw [e1]
    exact asl own_in
  · have hi : i < ps.length := by
      have := (List.getElem?_eq_some_iff.mp hd).1
      simpa using this
    have e2 : (ps.take (i + 1)).foldl (rowStep beat) [] = rowStep beat ((ps.take i).foldl (rowStep beat) []) (ps.getD i 0) := by
      rw [List.take_add_one, List.foldl_append, List.getD_eq_getElem?_getD, List.getElem?_eq_getElem hi]
      rfl
    rw [e2]
    have hlen0 := rowFold_len beat (ps.take i) []
    rw [List.length_take, List.length_nil] at hlen0
    generalize (ps.take i).foldl (rowStep beat) [] = found at hlen0 ⊢
    generalize ps.getD i 0 = one
    have hf : found.length ≤ 5 := by omega
    refine xs_cons (G' := [("place", encI (place beat found one).length), ("one", encI one), ("found", encL found), ("beat", .list (beat.map encP))]) (xa own_in ?_)
      (xs_cons (G' := ("found", encL (rowStep beat found one)) :: [("place", encI (place beat found one).length), ("one", encI one), ("found", encL found), ("beat", .list (beat.map encP))]) (xa own_in ?_) (xs_nil.say (sub_cons (sub_cons sub_nil))))
    · have hp : (place beat found one).length ≤ found.length := by unfold place; exact Nat.le_trans (List.length_filter_le _ _) (by simp)
      have e3 : (place beat found one).length = (((List.range found.length).filter fun k => decide ((((List.range (k + 1)).filter fun j => decide ((one, found.getD j 0) ∈ beat)).map id) = [])).map id).length := by
        unfold place
        simp
      rw [e3]
      refine el (enc := encI) (gl_b O hlen rfl) ?_ (by rw [← e3]; omega)
      refine ecF (List.range found.length) encI _ id encI (er1 hA (gl_b O hrange rfl) (el (xs := found) (enc := encI) (gl_b O hlen rfl) evn (by omega)) (by omega)) (by simp; omega) (fun C k hk => et_cmp ?_ eNil (cNil shI rm.u64)) (fun C k hk _ => evn)
      have hk' : k < found.length := by simpa using hk
      refine ecF (List.range (k + 1)) encI _ id encI (er1 hA (gl_b O hrange rfl) (eAdd (b := 1) evn ev_int) (by omega)) (by simp; omega) (fun C' j hj => et_cmp (eP evn (eIt (ps := found) evn evn ?_ (by omega))) evn (cIn rm.u65)) (fun C k hk _ => evn)
      have : j < k + 1 := by simpa using hj
      omega
    · have hp : (place beat found one).length ≤ found.length := by unfold place; exact Nat.le_trans (List.length_filter_le _ _) (by simp)
      unfold rowStep encL
      rw [List.map_append, List.map_append, List.map_take, List.map_drop]
      have hl1 : (found.map encI).length ≤ 5 := by simpa using hf
      refine ev_addL (ev_addL (ev_upto evn evn (le_line (by omega))) (ev_list (sp_cons evn sp_nil) (le_line (show 1 ≤ 4000 by decide))) (le_line ?_)) (ev_from evn evn (le_line (by omega))) (le_line ?_)
      · simp only [List.length_take, List.length_map, List.length_cons, List.length_nil]; omega
      · simp only [List.length_append, List.length_take, List.length_drop, List.length_map, List.length_cons, List.length_nil]; omega
  · have e3 : (ps.take (ps.map encI).length).foldl (rowStep beat) [] = rowOf beat ps := by
      rw [List.length_map, List.take_length]; rfl
    rw [← e3]
    exact evn
end Mine

namespace Mine
section
variable {W : Wd} {A : Around} {env : Env} {md : List Addr} {G : Cx}

theorem eSub {e₁ e₂ : Expr} {pos : Pos} {a b : Nat} (h₁ : Ev W A env G e₁ (encI a)) (h₂ : Ev W A env G e₂ (encI b)) (h : b ≤ a) : Ev W A env G (.BinOp e₁ .Sub e₂ pos) (encI (a - b)) := by
  have := ev_sub (pos := pos) h₁ h₂
  rw [show ((a : Int) - (b : Int)) = ((a - b : Nat) : Int) by omega] at this
  exact this
theorem eMul {e₁ e₂ : Expr} {pos : Pos} {a b : Nat} (h₁ : Ev W A env G e₁ (encI a)) (h₂ : Ev W A env G e₂ (encI b)) (h : a < 2 ^ 62) : Ev W A env G (.BinOp e₁ .Mult e₂ pos) (encI (a * b)) := by
  have := ev_mul (pos := pos) h₁ h₂ (IntMulOk.of_left ?_)
  · rw [← Int.natCast_mul] at this
    exact this
  · unfold Builtin.Int.intBits
    split
    · exact Nat.zero_le _
    · rw [Int.natAbs_natCast]
      have hz : a ≠ 0 := by rintro rfl; simp at *
      have := (Nat.log2_lt (k := 62) hz).mpr h
      omega
theorem eShr {e₁ e₂ : Expr} {pos : Pos} {a b : Nat} (h₁ : Ev W A env G e₁ (encI a)) (h₂ : Ev W A env G e₂ (encI b)) : Ev W A env G (.BinOp e₁ .RShift e₂ pos) (encI (a / 2 ^ b)) := by
  have := ev_rshift (pos := pos) h₁ h₂ (by omega)
  rw [Int.toNat_natCast, show ((2 : Int) ^ b) = ((2 ^ b : Nat) : Int) by simp, Int.fdiv_eq_ediv_of_nonneg _ (Int.natCast_nonneg _), ← Int.natCast_ediv] at this
  exact this
theorem eShl {e₁ e₂ : Expr} {pos : Pos} {a b : Nat} (h₁ : Ev W A env G e₁ (encI a)) (h₂ : Ev W A env G e₂ (encI b)) (ha : a < 2 ^ 64) (hb : b ≤ 1000000) : Ev W A env G (.BinOp e₁ .LShift e₂ pos) (encI (a * 2 ^ b)) := by
  have := ev_lshift (pos := pos) h₁ h₂ (by omega) (by omega) (by rw [Int.natAbs_natCast]; exact ha)
  rw [Int.toNat_natCast, show ((2 : Int) ^ b) = ((2 ^ b : Nat) : Int) by simp, ← Int.natCast_mul] at this
  exact this
theorem eDiv {e₁ e₂ : Expr} {pos : Pos} {a b : Nat} (h₁ : Ev W A env G e₁ (encI a)) (h₂ : Ev W A env G e₂ (encI b)) (hb : b ≠ 0) (hs : b < 1073741824) : Ev W A env G (.BinOp e₁ .FloorDiv e₂ pos) (encI (a / b)) := by
  have := ev_floordiv (pos := pos) h₁ h₂ (by omega) (by omega)
  rw [Int.fdiv_eq_ediv_of_nonneg _ (by omega), ← Int.natCast_ediv] at this
  exact this
theorem eMod {e₁ e₂ : Expr} {pos : Pos} {a b : Nat} (h₁ : Ev W A env G e₁ (encI a)) (h₂ : Ev W A env G e₂ (encI b)) (hb : b ≠ 0) : Ev W A env G (.BinOp e₁ .Mod e₂ pos) (encI (a % b)) := by
  have := ev_mod (pos := pos) h₁ h₂ (by omega)
  rw [Int.fmod_eq_emod_of_nonneg _ (by omega), ← Int.natCast_emod] at this
  exact this

theorem bitAnd_nat (a b : Nat) : Builtin.bitAnd (a : Int) (b : Int) = ((a &&& b : Nat) : Int) := by
  unfold Builtin.bitAnd
  rw [decide_eq_true (by omega : (0 : Int) ≤ a), decide_eq_true (by omega : (0 : Int) ≤ b)]
  simp
theorem bitOr_nat (a b : Nat) : Builtin.bitOr (a : Int) (b : Int) = ((a ||| b : Nat) : Int) := by
  have hn : ∀ x : Int, Builtin.bitNot x = -x - 1 := fun x => by unfold Builtin.bitNot; omega
  unfold Builtin.bitOr Builtin.bitAnd
  simp only [hn]
  rw [decide_eq_false (by omega : ¬ (0 : Int) ≤ -(a : Int) - 1), decide_eq_false (by omega : ¬ (0 : Int) ≤ -(b : Int) - 1)]
  simp only [show -(-(a : Int) - 1) - 1 = (a : Int) by omega, show -(-(b : Int) - 1) - 1 = (b : Int) by omega, Int.toNat_natCast]
  omega
theorem or_add_and (a b : Nat) : (a ||| b) = (a ^^^ b) + (a &&& b) := by
  have h : ∀ n a b : Nat, a < 2 ^ n → b < 2 ^ n → (a ||| b) = (a ^^^ b) + (a &&& b) := by
    intro n
    induction n with
    | zero => intro a b ha hb; have : a = 0 := by omega
              have : b = 0 := by omega
              subst_vars; rfl
    | succ n ih =>
      intro a b ha hb
      have h1 := ih (a / 2) (b / 2) (by omega) (by omega)
      have e1 : (a ||| b) / 2 = (a / 2 ||| b / 2) := Nat.or_div_two
      have e2 : (a ^^^ b) / 2 = (a / 2 ^^^ b / 2) := Nat.xor_div_two
      have e3 : (a &&& b) / 2 = (a / 2 &&& b / 2) := Nat.and_div_two
      have m1 : (a ||| b) % 2 = (a % 2 ||| b % 2) := by simpa using Nat.or_mod_two_pow (a := a) (b := b) (n := 1)
      have m2 : (a ^^^ b) % 2 = (a % 2 ^^^ b % 2) := by simpa using Nat.xor_mod_two_pow (a := a) (b := b) (n := 1)
      have m3 : (a &&& b) % 2 = (a % 2 &&& b % 2) := by simpa using Nat.and_mod_two_pow (a := a) (b := b) (n := 1)
      have ca : a % 2 = 0 ∨ a % 2 = 1 := by omega
      have cb : b % 2 = 0 ∨ b % 2 = 1 := by omega
      have m : (a ||| b) % 2 = (a ^^^ b) % 2 + (a &&& b) % 2 := by
        rw [m1, m2, m3]
        rcases ca with ca | ca <;> rcases cb with cb | cb <;> rw [ca, cb] <;> rfl
      omega
  refine h (a + b + 1) a b ?_ ?_
  · exact Nat.lt_of_lt_of_le Nat.lt_two_pow_self (Nat.pow_le_pow_right (by decide) (by omega))
  · exact Nat.lt_of_lt_of_le Nat.lt_two_pow_self (Nat.pow_le_pow_right (by decide) (by omega))
theorem bitXor_nat (a b : Nat) : Builtin.bitXor (a : Int) (b : Int) = ((a ^^^ b : Nat) : Int) := by
  unfold Builtin.bitXor
  rw [bitOr_nat, bitAnd_nat, or_add_and]
  omega
theorem xor_low (x k : Nat) : x ^^^ (x / 2 ^ k * 2 ^ k) = x % 2 ^ k := by
  apply Nat.eq_of_testBit_eq
  intro i
  rw [Nat.testBit_xor, Nat.testBit_mod_two_pow, ← Nat.shiftRight_eq_div_pow, ← Nat.shiftLeft_eq, Nat.testBit_shiftLeft]
  by_cases h : i < k
  · simp [h, Nat.not_le.mpr h]
  · have : k ≤ i := Nat.not_lt.mp h
    simp [h, this, Nat.testBit_shiftRight]
theorem eXor {e₁ e₂ : Expr} {pos : Pos} {a b : Nat} (h₁ : Ev W A env G e₁ (encI a)) (h₂ : Ev W A env G e₂ (encI b)) : Ev W A env G (.BinOp e₁ .BitXor e₂ pos) (encI (a ^^^ b)) := by
  have := ev_xor (pos := pos) h₁ h₂
  rw [bitXor_nat] at this
  exact this

/-- x.bit_length() -/
theorem eBits {o : Expr} {apos pos : Pos} {a : Nat} {pl : Sem Bool} (h : Ev W A env G o (encI a))
    (he : eval (.Call (.Attribute o "bit_length" apos) [] [] pos) env = (do
      let ov ← eval o env
      standAt apos.atName
      let (f, first) ← holding [ov] (getMethod ov "bit_length" pl)
      callWith pos f first (backTo pos (starEach [] env)) []) := by rfl) : Ev W A env G (.Call (.Attribute o "bit_length" apos) [] [] pos) (encI (Builtin.Int.intBits (a : Int))) := by
  intro bad s F B Q E hQ
  refine MethodCall_ (pl := pl) (h bad s F B _ _ fun v h' tk u r => ?_) he
  obtain ⟨t, rfl⟩ := rp_int r
  refine getMethod_int_bit_length (callWith_method0 (call_int_bit_length ?_))
  exact hQ _ h' _ u (.int _ _)

theorem mul_list' {prog : Program} {w : World} {A : Around} {E : Value → Shared → Prop} {s : Shared} {l : Addr} {items : Array Value} {k : Nat} {x : Int} {u : Tok} {Q : Value → Shared → Prop}
    (hl : s.heap.get? l = some { cls := .type "list", dict := none, data := .seq items k, slots := #[] })
    (hlo : -(2 ^ 63 : Int) ≤ x) (hhi : x < 2 ^ 63) (hsz : items.size * x.toNat ≤ 2 ^ 24)
    (h : Q (.ref s.heap.objs.size) { s with heap := s.heap.push { cls := .type "list", data := .seq (List.foldl (fun x1 x2 => x1 ++ x2) #[] (List.replicate (if items.isEmpty = true then 0 else x.toNat) items)) } }) :
    wpAny (model prog w) A (binaryOp .Mult (.ref l) (.int x u)) Q E s :=
  wpAny_binaryOp_repeat_ref (T := "list") (U := "int") (by decide) ⟨_, hl, rfl⟩ (fun s' => typeIs_int s' x u) noFill_list_mul F.fills_int_mul F.slot_int_rmul repeat_list F.slot_int_index.lookup
    (call_meets F.slot_int_rmul (typeIs_int s x u) F.entry_int_rmul (F.args_int_rmul_2 _ _) (int___rmul___int_list x u l items k)
      ⟨hl, rfl, ⟨_, hl, rfl⟩, call_meets F.slot_list_mul ⟨_, hl, rfl⟩ F.entry_list_mul (F.args_list_mul_2 _ _)
        (AutoListH.list___mul___list_int_3 l items k x u (by simp [Builtin.List.listFitsIndex]; omega) (by omega) (by simp [Builtin.List.listTooLong, sizeLine]; omega))
        ⟨hl, h⟩⟩)

/-- [x] * k -/
theorem eRep {e₁ e₂ : Expr} {pos : Pos} {d : PyData} {k : Nat} (h₁ : Ev W A env G e₁ (.list [d])) (h₂ : Ev W A env G e₂ (encI k)) (hk : k ≤ 4000) : Ev W A env G (.BinOp e₁ .Mult e₂ pos) (.list (List.replicate k d)) :=
  ev_binop h₁ h₂ fun bad s v₁ v₂ Fr _ r₁ r₂ Q E hQ => by
    obtain ⟨l, vs, n, rfl, _, ea, _, rs⟩ := rp_list r₁
    obtain ⟨u, rfl⟩ := rp_int r₂
    obtain ⟨v, rfl, r⟩ := rps_one rs
    have hrep : ∀ k : Nat, Rps (cut s.heap bad) (List.replicate k v) (List.replicate k d) := by
      intro k
      induction k with
      | zero => exact .nil
      | succ k ih => rw [List.replicate_succ, List.replicate_succ]; exact .cons r ih
    have r3 := rp_new_list Fr.fresh (hrep k)
    have ev : (List.foldl (fun x1 x2 => x1 ++ x2) #[] (List.replicate (if ([v].toArray : Array Value).isEmpty = true then 0 else (k : Int).toNat) [v].toArray)) = (List.replicate k v).toArray := by
      have : ([v].toArray : Array Value).isEmpty = false := rfl
      rw [this]
      simp only [Bool.false_eq_true, if_false, Int.toNat_natCast]
      rw [listMul_foldl]
      simp
    have fin := hQ _ _ s.toks (Up.push _ _) r3
    rw [← ev] at fin
    exact mul_list' ea (by omega) (by omega) (by simp; omega) fin
end
end Mine

namespace Mine

abbrev envI (q : Str) (scope : Scope) (L f : Addr) (cd : Value) (cl : List (Str × Addr)) : Env :=
  { scope := scope, locals := L, globals := mainGlobals, cells := cl, qual := q ++ ".<locals>.", func := some f, code := cd, frame := some L, builtins := builtinsNs }

/-- a def within a def, with no cells of its own -/
structure InAt (h : Heap) (f : Addr) (q : Str) (cd : Value) (params : List Str) (body : List Stmt) (scope : Scope) (cl : List (Str × Addr)) : Prop where
  ex : ∃ o fd, h.get? f = some o ∧ o.data = .func fd ∧ fd.body = .stmts body ∧ fd.scope = scope ∧ fd.globals = mainGlobals ∧ fd.closure = cl ∧ fd.qualname = q ∧ fd.code = cd ∧ fd.builtins = builtinsNs ∧
    ∀ vs : List Value, vs.length = params.length → bindArgs fd ⟨vs, []⟩ = pure (params.zip vs)
  code : h.CodeRec cd q
  kind : scope.kind = .function
  gen : scope.isGenerator = false
  co : scope.isCoroutine = false
  pk : ∀ x ∈ params, scope.names.lookup x = some .local
  nc : ∀ p ∈ scope.names, p.2 ≠ .cell
theorem InAt.up {h h' : Heap} {f : Addr} {q : Str} {cd : Value} {params : List Str} {body : List Stmt} {scope : Scope} {cl : List (Str × Addr)} (I : InAt h f q cd params body scope cl) (u : Up h h') : InAt h' f q cd params body scope cl :=
  ⟨let ⟨o, fd, e, r⟩ := I.ex; ⟨o, fd, u _ _ e, r⟩, I.code.keeps u, I.kind, I.gen, I.co, I.pk, I.nc⟩
theorem InAt.fnAt {h h' : Heap} {f : Addr} {q : Str} {cd : Value} {params : List Str} {body : List Stmt} {scope : Scope} {cl : List (Str × Addr)} (I : InAt h f q cd params body scope cl) (u : Up h h') : FnAt f h' := by
  obtain ⟨o, fd, h1, h2, _⟩ := I.ex
  obtain ⟨c, d, dt, sl⟩ := o
  simp only at h2
  subst h2
  exact ⟨c, d, fd, sl, u _ _ h1⟩

theorem noCells : ∀ (names : List (Str × NameKind)) (n : Nat) (acc : List (Str × Addr)), (∀ p ∈ names, p.2 ≠ .cell) → cellsFrom n names acc = acc
  | [], _, _, _ => rfl
  | (x, k) :: r, n, acc, h => by
    unfold cellsFrom
    have hk := h _ List.mem_cons_self
    rw [if_neg (by simpa using hk)]
    exact noCells r n acc fun p hp => h p (List.mem_cons_of_mem _ hp)
theorem noPush : ∀ (names : List (Str × NameKind)) (h : Heap), (∀ p ∈ names, p.2 ≠ .cell) → pushCells h names = h
  | [], _, _ => rfl
  | (x, k) :: r, hp, h => by
    unfold pushCells
    have hk := h _ List.mem_cons_self
    rw [if_neg (by simpa using hk)]
    exact noPush r hp fun p hp => h p (List.mem_cons_of_mem _ hp)

/-- what is asked of the cells that a def within a def takes along -/
structure Cls (cl : List (Str × Addr)) (scope : Scope) (bad : List Addr) (G : Cx) (h : Heap) : Prop where
  cb : ∀ y c, cl.lookup y = some c → c ∈ bad ∧ ∃ v, h.IsCell c v
  inj : ∀ x y c, cl.lookup x = some c → cl.lookup y = some c → x = y
  ct : ∀ x d, G.lookup x = some d → scope.names.lookup x = some .free ∧ ∃ c v, cl.lookup x = some c ∧ h.IsCell c (some v) ∧ Rp (cut h bad) v d

theorem wp_bindsL {env : Env} {A : Around} {M : Model} {E : Value → Shared → Prop} {bad : List Addr} (hk : env.scope.kind = .function) : ∀ (names : List Str) (vs : List Value) (ds : List PyData) (G : Cx) (s : Shared) (h₀ : Heap) (Q : PUnit → Shared → Prop),
    (∀ x ∈ names, env.kindOf x = some .local) → names.length = vs.length → FS env bad G s.heap → Keep bad h₀ s.heap → (∀ b o, b ≠ env.locals → h₀.get? b = some o → s.heap.get? b = some o) → Rps (cut h₀ bad) vs ds →
    (∀ h' tk, FS env bad ((names.zip ds).reverse ++ G) h' → (∀ b o, b ≠ env.locals → h₀.get? b = some o → h'.get? b = some o) → Q ⟨⟩ { s with heap := h', toks := tk }) →
    wpAny M A (forIn (names.zip vs) PUnit.unit fun x _ => do storeName env x.1 x.2; pure (ForInStep.yield PUnit.unit)) Q E s
  | [], vs, ds, G, s, h₀, Q, _, hl, F, K, KF, r, hQ => by
    cases vs with
    | nil => cases r; rw [List.zip_nil_left, List.forIn_nil]; exact wpAny_pure (hQ s.heap s.toks F KF)
    | cons v vs => simp at hl
  | x :: names, vs, ds, G, s, h₀, Q, hx, hl, F, K, KF, r, hQ => by
    cases vs with
    | nil => simp at hl
    | cons v vs =>
      cases r with
      | cons r1 r2 =>
      rename_i d ds
      rw [List.zip_cons_cons, List.forIn_cons]
      have hxl := hx x List.mem_cons_self
      refine wpAny_bind (wpAny_bind (F.store hk (.inl hxl) (r1.up K.cut) fun h' tk a F' hs ha => wpAny_pure ?_))
      have hao : a = env.locals := ha.elim id fun q => by rw [hxl] at q; cases q.1
      subst hao
      refine wp_bindsL hk names vs ds ((x, d) :: G) _ h₀ _ (fun y hy => hx y (List.mem_cons_of_mem _ hy)) (by simpa using hl) F' (K.trans (Keep.of_same F.lbad hs)) (fun b o hb e => (hs.2 b hb).trans (KF b o hb e)) r2 fun h'' tk' F'' KF' => ?_
      exact hQ h'' tk' (by simpa using F'') KF'

theorem in_enter {W : Wd} {A : Around} {f : Addr} {q : Str} {cd : Value} {params : List Str} {body : List Stmt} {scope : Scope} {cl : List (Str × Addr)} {n : Nat} {vs : List Value} {ds : List PyData} {bad : List Addr} {G : Cx} {s : Shared} {R : Result → Shared → Prop}
    (I : InAt s.heap f q cd params body scope cl) (lim : W.base.NoLimit) (rm : Room A (n + 1))
    (st : ∀ b ∈ bad, ∃ o, s.heap.get? b = some o) (B : Bs W bad s.heap) (C : Cls cl scope bad G s.heap) (hl : vs.length = params.length) (r : Rps (cut s.heap bad) vs ds)
    (h : ∀ L h' tk E, s.heap.get? L = none → Up s.heap h' → FS (envI q scope L f cd cl) (L :: bad) ((params.zip ds).reverse ++ G) h' → Bs W (L :: bad) h' →
      wpAny (model W.prog W.w) (A.deeper (envI q scope L f cd cl)) (execs body (envI q scope L f cd cl)) (fun fl s' => R (.ok (.ret (match fl with | .ret v => v | _ => .none))) s') E { s with heap := h', toks := tk }) :
    codeAny (model W.prog W.w) A (.call (.ref f) ⟨vs, []⟩) R s := by
  obtain ⟨o, fd, h1, h2, h3, rfl, h5, rfl, rfl, rfl, h9, hb⟩ := I.ex
  refine codeAny_call_function (by have := rm.dp; omega) h1 h2 I.co I.gen h3 I.code ?_
  rw [hb vs hl, h5, h9]
  refine wpAny_pure ?_
  simp only [newFunctionEnv, Option.isSome_none, Bool.false_eq_true, if_false]
  refine wpAny_bind (wpAny_alloc ?_)
  refine wpAny_bind (wpAny_layCells _ (fun name kind cells => by cases hkc : kind == NameKind.cell <;> simp) _ _ _ _ ?_)
  rw [noCells _ _ _ I.nc]
  dsimp only
  rw [noPush _ _ I.nc]
  generalize hH : s.heap.push { cls := .type "frame", data := .dict #[] } = H
  have uS : Up s.heap H := by rw [← hH]; exact Up.push _ _
  have fL : s.heap.get? s.heap.objs.size = none := by
    cases e : s.heap.get? s.heap.objs.size with
    | none => rfl
    | some o => exact absurd (Heap.lt_size e) (Nat.lt_irrefl _)
  have hC : H.Ns s.heap.objs.size fun _ => none := by rw [← hH]; exact Heap.Ns.new _ _
  have mdF : ∀ b ∈ [s.heap.objs.size], s.heap.get? b = none := fun b hb => by rw [List.mem_singleton.mp hb]; exact fL
  have hcut : Up (cut s.heap bad) (cut H (s.heap.objs.size :: bad)) := (cut_add (own := [s.heap.objs.size]) mdF).trans (uS.keep _).cut
  have F0 : FS (envI fd.qualname fd.scope s.heap.objs.size f fd.code fd.closure) (s.heap.objs.size :: bad) G H := by
    refine ⟨fun b hb => ?_, List.mem_cons_self, fun y c e => ?_, C.inj, ⟨_, hC, fun x d e k => ?_⟩, fun x d e _ => ?_⟩
    · rcases List.mem_cons.mp hb with rfl | hb
      · obtain ⟨o, _, _, e, _⟩ := hC; exact ⟨o, e⟩
      · obtain ⟨o, e⟩ := st b hb; exact ⟨o, uS b o e⟩
    · obtain ⟨hb, v, o, e1, e2⟩ := C.cb y c e
      exact ⟨List.mem_cons_of_mem _ hb, v, o, uS _ _ e1, e2⟩
    · have := (C.ct x d e).1
      rw [show (envI fd.qualname fd.scope s.heap.objs.size f fd.code fd.closure).kindOf x = fd.scope.names.lookup x from rfl, this] at k
      cases k
    · obtain ⟨_, c, v, e1, ⟨o, e2, e3⟩, r'⟩ := C.ct x d e
      exact ⟨c, v, e1, ⟨o, uS _ _ e2, e3⟩, r'.up hcut⟩
  refine wpAny_bind (wp_bindsL (env := envI fd.qualname fd.scope s.heap.objs.size f fd.code fd.closure) I.kind params vs ds G { s with heap := H } H _ (fun x hx => I.pk x hx) hl.symm F0 (Keep.refl _ _) (fun b o _ e => e) (r.up hcut) fun h' tk F' KF => ?_)
  refine wpAny_pure ?_
  have up' : Up s.heap h' := fun b o e => by
    by_cases hb : b = s.heap.objs.size
    · rw [hb, fL] at e; cases e
    · exact KF b o hb (uS b o e)
  have B' : Bs W (s.heap.objs.size :: bad) h' := B.move ((cut_add (own := [s.heap.objs.size]) mdF).trans (up'.keep _).cut)
  exact ⟨lim.keeps (B.full.trans up'), codeAny_func (h s.heap.objs.size h' tk _ fL up' F' B')⟩
end Mine

namespace Mine
open PySem.Challenge (pw_gf0002_01)

theorem Cls.move {cl : List (Str × Addr)} {scope : Scope} {bad bad' : List Addr} {G : Cx} {h h' : Heap} (C : Cls cl scope bad G h) (u : Up (cut h bad) (cut h' bad')) (hb : ∀ b ∈ bad, b ∈ bad')
    (k : ∀ y c, cl.lookup y = some c → ∀ o, h.get? c = some o → h'.get? c = some o) : Cls cl scope bad' G h' :=
  ⟨fun y c e => let ⟨h1, v, o, h2, h3⟩ := C.cb y c e; ⟨hb _ h1, v, o, k y c e _ h2, h3⟩, C.inj, fun x d e => let ⟨h1, c, v, h2, ⟨o, h3, h4⟩, h5⟩ := C.ct x d e; ⟨h1, c, v, h2, ⟨o, k x c h2 _ h3, h4⟩, h5.up u⟩⟩

/-- the state that a def within a def leans on: itself, and its cells -/
structure CSt (fi : Addr) (q : Str) (cd : Value) (params : List Str) (body : List Stmt) (scope : Scope) (cl : List (Str × Addr)) (x : Str) (G : Cx) (bad : List Addr) (h : Heap) : Prop where
  fn : InAt (cut h bad) fi q cd params body scope cl
  cls : Cls cl scope bad G h
  ci : ∃ c, cl.lookup x = some c ∧ h.IsCell c (some (.ref fi))
theorem CSt.move {fi : Addr} {q : Str} {cd : Value} {params : List Str} {body : List Stmt} {scope : Scope} {cl : List (Str × Addr)} {x : Str} {G : Cx} {bad bad' : List Addr} {h h' : Heap} (S : CSt fi q cd params body scope cl x G bad h)
    (u : Up (cut h bad) (cut h' bad')) (hb : ∀ b ∈ bad, b ∈ bad') (k : ∀ y c, cl.lookup y = some c → ∀ o, h.get? c = some o → h'.get? c = some o) : CSt fi q cd params body scope cl x G bad' h' :=
  ⟨S.fn.up u, S.cls.move u hb k, let ⟨c, e, o, h1, h2⟩ := S.ci; ⟨c, e, o, k x c e _ h1, h2⟩⟩
theorem CSt.up {fi : Addr} {q : Str} {cd : Value} {params : List Str} {body : List Stmt} {scope : Scope} {cl : List (Str × Addr)} {x : Str} {G : Cx} {bad : List Addr} {h h' : Heap} (S : CSt fi q cd params body scope cl x G bad h) (u : Up h h') :
    CSt fi q cd params body scope cl x G bad h' := S.move (u.keep bad).cut (fun _ q => q) fun _ c _ o e => u c o e

/-- an expression that leans on a state -/
def EvS (W : Wd) (A : Around) (env : Env) (G : Cx) (S : List Addr → Heap → Prop) (e : Expr) (d : PyData) : Prop :=
  ∀ (bad : List Addr) (s : Shared), FS env bad G s.heap → Bs W bad s.heap → S bad s.heap → Gives W A (eval e env) bad s d
section
variable {W : Wd} {A : Around} {env : Env} {md : List Addr} {G : Cx} {S : List Addr → Heap → Prop}
theorem Ev.s {e : Expr} {d : PyData} (h : Ev W A env G e d) : EvS W A env G S e d := fun bad s F B _ => h bad s F B
theorem evs_binop {op : Operator} {e₁ e₂ : Expr} {pos : Pos} {d₁ d₂ d : PyData} (hS : ∀ bad h h', S bad h → Up h h' → S bad h') (h₁ : EvS W A env G S e₁ d₁) (h₂ : EvS W A env G S e₂ d₂)
    (h : ∀ (bad : List Addr) (s : Shared) (v₁ v₂ : Value), FS env bad G s.heap → Bs W bad s.heap → Rp (cut s.heap bad) v₁ d₁ → Rp (cut s.heap bad) v₂ d₂ → Gives W A (binaryOp op v₁ v₂) bad s d) :
    EvS W A env G S (.BinOp e₁ op e₂ pos) d := by
  intro bad s F B T Q E hQ
  refine wpAny_BinOp (h₁ bad s F B T _ _ fun v₁ h' tk u r₁ => ?_)
  refine h₂ bad _ (F.up u) (B.up u) (hS _ _ _ T u) _ _ fun v₂ h'' tk' u' r₂ => ?_
  exact h bad _ v₁ v₂ ((F.up u).up u') ((B.up u).up u') (r₁.up (u'.keep _).cut) r₂ Q E fun v h₃ tk₃ u₃ r => hQ v h₃ tk₃ ((u.trans u').trans u₃) r
theorem opAdd {a b : Int} (bad : List Addr) (s : Shared) (v₁ v₂ : Value) (_ : FS env bad G s.heap) (_ : Bs W bad s.heap) (r₁ : Rp (cut s.heap bad) v₁ (.int a)) (r₂ : Rp (cut s.heap bad) v₂ (.int b)) : Gives W A (binaryOp .Add v₁ v₂) bad s (.int (a + b)) := fun Q E hQ => by
  obtain ⟨t, rfl⟩ := rp_int r₁; obtain ⟨u, rfl⟩ := rp_int r₂
  exact PyProof.Rows.add_int (hQ _ s.heap _ (Up.refl _) (.int _ _))
theorem opShl {a b : Int} (hb : 0 ≤ b) (hb2 : b ≤ 1000000) (ha : a.natAbs < 2 ^ 64) (bad : List Addr) (s : Shared) (v₁ v₂ : Value) (_ : FS env bad G s.heap) (_ : Bs W bad s.heap) (r₁ : Rp (cut s.heap bad) v₁ (.int a)) (r₂ : Rp (cut s.heap bad) v₂ (.int b)) : Gives W A (binaryOp .LShift v₁ v₂) bad s (.int (a * 2 ^ b.toNat)) := fun Q E hQ => by
  obtain ⟨t, rfl⟩ := rp_int r₁; obtain ⟨u, rfl⟩ := rp_int r₂
  exact lshift_int_small hb hb2 ha (hQ _ s.heap _ (Up.refl _) (.int _ _))
/-- a call of the def within the def, by its cell -/
theorem evs_call {x : Str} {p pos : Pos} {f : Addr} {e : Expr} {es : List Expr} {ds : List PyData} {r : PyData} (hk : env.scope.kind = .function) (hx : env.kindOf x = some .free ∨ env.kindOf x = some .cell)
    (hf : ∀ bad h, S bad h → FnAt f h ∧ ∃ c, env.cells.lookup x = some c ∧ h.IsCell c (some (.ref f))) (hS : ∀ bad h h', S bad h → Up h h' → S bad h')
    (hc : ∀ (bad : List Addr) (s : Shared) (vs : List Value), FS env bad G s.heap → Bs W bad s.heap → S bad s.heap → Rps (cut s.heap bad) vs ds → Gives W A (call (.ref f) vs) bad s r)
    (hs : Sp W A env G (e :: es) ds) (he : starEach (e :: es) env = (false, eval e env) :: starEach es env := by rfl) (hpl : (backTo pos (starEach es env)).any (·.1) = false := by rfl) (hd : (x == ("__debug__" : Str)) = false := by decide) (hcd : (x == ("__classdict__" : Str)) = false := by decide) :
    EvS W A env G S (.Call (.Name x p) (e :: es) [] pos) r := by
  intro bad s F B T Q E hQ
  obtain ⟨hfa, c, e1, e2⟩ := hf _ _ T
  refine Call_Name rfl (wpAny_Name ?_ hd)
  have tail : wpAny (model W.prog W.w) A (callWith pos (.ref f) [] (backTo pos (starEach (e :: es) env)) []) Q E s := ?_
  · exact hx.elim (fun hx => wpAny_loadName_free hk hx e1 e2 tail hcd) fun hx => wpAny_loadName_cell hk hx e1 e2 tail
  refine callWith_F hfa ?_ he hpl
  refine hs pos bad s _ _ F B fun vs h' tk u rs => ⟨(hf _ _ (hS _ _ _ T u)).1, ?_⟩
  rw [List.nil_append]
  exact hc bad _ vs (F.up u) (B.up u) (hS _ _ _ T u) rs Q E fun v h'' tk' u' r' => hQ v h'' tk' (u.trans u') r'
end

def XrS (W : Wd) (A : Around) (env : Env) (md : List Addr) (G : Cx) (S : List Addr → Heap → Prop) (sts : List Stmt) (r : PyData) : Prop :=
  ∀ (bad : List Addr) (s : Shared) (Q : Flow → Shared → Prop) (E : Value → Shared → Prop), FS env bad G s.heap → Bs W bad s.heap → (∀ b ∈ md, b ∈ bad) → S bad s.heap →
    (∀ v h' tk, Keep md s.heap h' → Rp (cut h' bad) v r → Q (.ret v) { s with heap := h', toks := tk }) → wpAny (model W.prog W.w) A (execs sts env) Q E s
section
variable {W : Wd} {A : Around} {env : Env} {md : List Addr} {G G' : Cx} {S : List Addr → Heap → Prop}
theorem xrs_cons {st : Stmt} {sts : List Stmt} {r : PyData} (hS : ∀ bad h h', (∀ b ∈ md, b ∈ bad) → S bad h → Keep md h h' → S bad h') (h : X W A env md G st G') (k : XrS W A env md G' S sts r) : XrS W A env md G S (st :: sts) r := by
  intro bad s Q E F B hm T hQ
  refine wpAny_execs_cons (h bad s _ E F B hm fun h' tk F' B' K => ?_)
  exact k bad _ Q E F' B' hm (hS _ _ _ hm T K) fun v h'' tk' K' r => hQ v h'' tk' (K.trans K') r
theorem xal {x : Str} {p pos : Pos} {e : Expr} {d : PyData} (O : env.locals ∈ md) (h : Ev W A env G e d) (hk : env.scope.kind = .function := by rfl) (hx : env.kindOf x = some .local := by rfl)
    (hs : swapsWith e (some (.Name x p)) pos.line env = pure false := by rfl) : X W A env md G (.Assign [.Name x p] e pos) ((x, d) :: G) := by
  intro bad s Q E F B hm hQ
  refine wpAny_Assign_Name (h bad s F B _ _ fun v h' tk u r => ?_) hs
  refine (F.up u).store hk (.inl hx) r fun h'' tk' a F' hs' ha => ?_
  have ha' : a = env.locals := ha.elim id fun q => by rw [hx] at q; cases q.1
  subst ha'
  have K : Keep md h' h'' := Keep.of_same O hs'
  exact hQ h'' tk' F' ((B.up u).keep (K.more hm)) ((u.keep _).trans K)
theorem xrs_ret {e : Expr} {pos : Pos} {sts : List Stmt} {r : PyData} (h : EvS W A env G S e r) : XrS W A env md G S (.Return (some e) pos :: sts) r := by
  intro bad s Q E F B hm T hQ
  exact wpAny_execs_cons (wpAny_Return_some (h bad s F B T _ _ fun v h' tk u r => hQ v h' tk (u.keep _) r))
end

/-- the data of a def within the program's k-th statement -/
def innerAt (p : Program) (k j : Nat) : List Str × List Stmt × Scope := match (defAt p k).2.1[j]? with
  | some (.FunctionDef _ a b _ _ _ sc _ _ _) => (a.args.map (·.arg), b, sc)
  | _ => ([], [], { kind := .function, names := [], isGenerator := false, isCoroutine := false })

def val : List Nat → Nat
  | [] => 0
  | b :: bs => b + 2 * val bs
theorem val_app : ∀ xs ys : List Nat, val (xs ++ ys) = val xs + 2 ^ xs.length * val ys
  | [], _ => by simp [val]
  | x :: xs, ys => by
    rw [List.cons_append, val, val, val_app xs ys, List.length_cons, Nat.pow_succ]
    have : 2 * (2 ^ xs.length * val ys) = 2 ^ xs.length * 2 * val ys := by rw [← Nat.mul_assoc, Nat.mul_comm 2]
    omega
theorem val_lt : ∀ xs : List Nat, (∀ x ∈ xs, x ≤ 1) → val xs < 2 ^ xs.length
  | [], _ => by simp [val]
  | x :: xs, h => by
    have h1 := h x List.mem_cons_self
    have h2 := val_lt xs fun y hy => h y (List.mem_cons_of_mem _ hy)
    rw [val, List.length_cons, Nat.pow_succ]; omega
def slice (ds : List Nat) (L R : Nat) : List Nat := (ds.drop L).take (R - L)
theorem slice_split (ds : List Nat) {L M R : Nat} (h1 : L ≤ M) (h2 : M ≤ R) : slice ds L R = slice ds L M ++ slice ds M R := by
  unfold slice
  have e1 : ds.drop M = (ds.drop L).drop (M - L) := by rw [List.drop_drop]; congr 1; omega
  rw [e1, show R - L = (M - L) + (R - M) by omega, List.take_add]
theorem slice_len (ds : List Nat) {L R : Nat} (h : R ≤ ds.length) : (slice ds L R).length = R - L := by
  unfold slice; rw [List.length_take, List.length_drop]; omega
theorem slice_one (ds : List Nat) {L : Nat} (h : L < ds.length) : slice ds L (L + 1) = [ds.getD L 0] := by
  unfold slice
  rw [show L + 1 - L = 1 by omega, List.drop_eq_getElem_cons h, List.take_succ_cons, List.take_zero, List.getD_eq_getElem?_getD, List.getElem?_eq_getElem h]
  rfl

abbrev DSt (fi : Addr) (q : Str) (cd : Value) (cl : List (Str × Addr)) (digits : List Nat) := CSt fi q cd (innerAt pw_gf0002_01 5 0).1 (innerAt pw_gf0002_01 5 0).2.1 (innerAt pw_gf0002_01 5 0).2.2 cl "inner" [("digits", encL digits), ("n", encI 1)]

theorem d2i_inner {W : Wd} (lim : W.base.NoLimit) {fi : Addr} {q : Str} {cd : Value} {cl : List (Str × Addr)} {digits : List Nat} (hd : ∀ x ∈ digits, x ≤ 1) (hl : digits.length ≤ 40) : ∀ m L R, L < R → R ≤ digits.length → R - L ≤ m →
    ∀ (A : Around) (bad : List Addr) (s : Shared) (vs : List Value), Room A m → (∀ b ∈ bad, ∃ o, s.heap.get? b = some o) → Bs W bad s.heap → DSt fi q cd cl digits bad s.heap → Rps (cut s.heap bad) vs [encI L, encI R] →
      Gives W A (call (.ref fi) vs) bad s (encI (val (slice digits L R))) := by
  intro m
  induction m with
  | zero => intro L R h1 h2 h3; omega
  | succ m ih =>
    intro L R h1 h2 h3 A bad s vs rm st B S r Q E hQ
    refine wpAny_call ?_
    refine in_enter (S.fn.up (cut_up _ _)) lim rm st B S.cls r.length r fun F h₁ tk₁ E' fF u₁ FS₁ B₁ => ?_
    have rm' := rm.deeper (envI q (innerAt pw_gf0002_01 5 0).2.2 F fi cd cl)
    generalize A.deeper (envI q (innerAt pw_gf0002_01 5 0).2.2 F fi cd cl) = A' at rm' ⊢
    have S₁ : DSt fi q cd cl digits (F :: bad) h₁ := S.move ((cut_add (own := [F]) fun b hb => by rw [List.mem_singleton.mp hb]; exact fF).trans (u₁.keep _).cut) (fun b hb => List.mem_cons_of_mem _ hb) fun _ c _ o e => u₁ c o e
    have hne : ∀ y c, cl.lookup y = some c → c ≠ F := fun y c e q => by
      obtain ⟨_, v, o, h1, _⟩ := S.cls.cb y c e
      rw [q, fF] at h1; cases h1
    have key : ∀ (s₂ : Shared) (Q₂ : Value → Shared → Prop), FS (envI q (innerAt pw_gf0002_01 5 0).2.2 F fi cd cl) (F :: bad) (((innerAt pw_gf0002_01 5 0).1.zip [encI L, encI R]).reverse ++ ([("digits", encL digits), ("n", encI 1)] : Cx)) s₂.heap → Bs W (F :: bad) s₂.heap → DSt fi q cd cl digits (F :: bad) s₂.heap →
        (∀ v h' tk, Keep [F] s₂.heap h' → Rp (cut h' (F :: bad)) v (encI (val (slice digits L R))) → Q₂ v { s₂ with heap := h', toks := tk }) →
        wpAny (model W.prog W.w) A' (execs (innerAt pw_gf0002_01 5 0).2.1 (envI q (innerAt pw_gf0002_01 5 0).2.2 F fi cd cl)) (fun fl s' => Q₂ (match fl with | .ret v => v | _ => .none) s') E' s₂ := by
      have e := (rfl : innerAt pw_gf0002_01 5 0 = innerAt pw_gf0002_01 5 0)
      conv at e => rhs; whnf
      rw [e]; clear e
      dsimp only
      intro s₂ Q₂ F₂ B₂ S₂ hQ₂
      by_cases hLR : L + 1 = R
      · subst hLR
        rw [slice_one digits h2] at hQ₂
        refine xr_if_t (md := []) (et_cmp (eAdd (b := 1) (a := L) evn ev_int) evn (b := true) (cmp_eq (shI (k := 0) _).shaped (shI (k := 0) _).shaped rm'.u64 (by rw [eqv_I]; simp))) (xr_ret (r := encI (val [digits.getD L 0])) ?_) (F :: bad) s₂ _ E' F₂ B₂ (fun b hb => nomatch hb) fun v h' tk K r => hQ₂ v h' tk (fun b o _ e => K b o (fun q => nomatch q) e) r
        have : val [digits.getD L 0] = digits.getD L 0 := by simp [val]
        rw [this]
        exact eIt evn evn h2 (by omega)
      · have hS : ∀ bad h h', (∀ b ∈ [F], b ∈ bad) → DSt fi q cd cl digits bad h → Keep [F] h h' → DSt fi q cd cl digits bad h' := fun bad h h' hm S K =>
          S.move (K.more hm).cut (fun _ q => q) fun y c e o h => K c o (fun q => hne y c e (List.mem_singleton.mp q)) h
        have hU : ∀ bad h h', DSt fi q cd cl digits bad h → Up h h' → DSt fi q cd cl digits bad h' := fun _ _ _ S u => S.up u
        have hf : ∀ bad h, DSt fi q cd cl digits bad h → FnAt fi h ∧ ∃ c, cl.lookup (Str.ofString "inner") = some c ∧ h.IsCell c (some (.ref fi)) := fun bad h S => ⟨S.fn.fnAt (cut_up _ _), S.ci⟩
        have hm1 : L < (L + R) / 2 ^ 1 := by omega
        have hm2 : (L + R) / 2 ^ 1 < R := by omega
        have hv : (val (slice digits ((L + R) / 2 ^ 1) R) : Int) * 2 ^ ((((L + R) / 2 ^ 1 - L) * 1 : Nat) : Int).toNat + (val (slice digits L ((L + R) / 2 ^ 1)) : Int) = (val (slice digits L R) : Int) := by
          rw [slice_split digits (Nat.le_of_lt hm1) (Nat.le_of_lt hm2), val_app, slice_len digits (by omega), Int.toNat_natCast, Nat.mul_one]
          simp only [Int.natCast_add, Int.natCast_mul, Int.natCast_pow]
          rw [Int.mul_comm, Int.add_comm]; rfl
        refine (xrs_cons hS (x_if_f (et_cmp (eAdd (b := 1) (a := L) evn ev_int) evn (b := false) (cmp_eq (shI (k := 0) _).shaped (shI (k := 0) _).shaped rm'.u64 (by rw [eqv_I]; simpa using hLR))) xs_nil)
          (xrs_cons hS (xal (md := [F]) (d := encI ((L + R) / 2 ^ 1)) List.mem_cons_self (eShr (b := 1) (eAdd (a := L) (b := R) evn evn) ev_int))
          (xrs_cons hS (xal (md := [F]) (d := encI (((L + R) / 2 ^ 1 - L) * 1)) List.mem_cons_self (eMul (eSub evn evn (by omega)) evn (by omega)))
          (xrs_ret (evs_binop hU (evs_binop hU (d₁ := encI (val (slice digits ((L + R) / 2 ^ 1) R))) (d₂ := encI (((L + R) / 2 ^ 1 - L) * 1)) ?_ (Ev.s evn) (opShl (by omega) (by omega) ?_)) (d₂ := encI (val (slice digits L ((L + R) / 2 ^ 1)))) ?_ opAdd)))) : XrS W A' _ [F] _ (DSt fi q cd cl digits) _ _) (F :: bad) s₂ _ E' F₂ B₂ (fun b hb => by rw [List.mem_singleton.mp hb]; exact List.mem_cons_self) S₂ fun v h' tk K r => hQ₂ v h' tk K (by unfold encI; rw [← hv]; exact r)
        · exact evs_call rfl (.inl rfl) hf hU (fun bad s vs F B S r => ih _ _ hm2 h2 (by omega) A' bad s vs rm' F.stands B S r) (sp_cons evn (sp_cons evn sp_nil))
        · rw [Int.natAbs_natCast]
          have h5 := val_lt (slice digits ((L + R) / 2 ^ 1) R) fun x hx => hd x (List.mem_of_mem_drop (List.mem_of_mem_take hx))
          refine Nat.lt_of_lt_of_le h5 (Nat.pow_le_pow_right (by decide) ?_)
          rw [slice_len digits h2]; omega
        · exact evs_call rfl (.inl rfl) hf hU (fun bad s vs F B S r => ih _ _ hm1 (by omega) (by omega) A' bad s vs rm' F.stands B S r) (sp_cons evn (sp_cons evn sp_nil))
    refine key _ (fun v s' => Q v s') FS₁ B₁ S₁ fun v h' tk K r' => ?_
    exact hQ v h' tk (fun b o e => K b o (fun q => by rw [List.mem_singleton.mp q, fF] at e; cases e) (u₁ b o e)) (r'.up (cut_less fun b hb => List.mem_cons_of_mem _ hb))
end Mine

namespace Mine
open PySem.Challenge (pw_gf0002_01)

/-- what making a def within a def leans on -/
structure Mk (W : Wd) (mg : Str → Option Value) (c P : Addr) : Prop where
  code : CodeHd W.base c P
  bm : W.base.BuiltinsAt mg P
  gP : mainGlobals ≠ P

section
variable {W : Wd} {A : Around} {env : Env} {md : List Addr} {G : Cx}
theorem et_list {e : Expr} {ds : List PyData} (h : Ev W A env G e (.list ds)) (hf : ds.length ≤ 4000) (he : ∀ whole, isTrue e env whole = (do let v ← whole; standAt e.pos; holding [v] (truthy v)) := by intro _; rfl) : Et W A env G e (!ds.isEmpty) := by
  intro bad s Q E F B hQ
  refine wpAny_isTrue_value (h bad s F B _ _ fun v h' tk u r => ?_) (he _)
  obtain ⟨a, vs, n, rfl, _, ea, _, rs⟩ := rp_list r
  have hl := rs.length
  refine wpAny_truthy_list (items := vs.toArray) ⟨_, ea, rfl, n, rfl⟩ (by simp; omega) ?_
  have e1 : (!vs.toArray.isEmpty) = (!ds.isEmpty) := by
    cases vs <;> cases ds <;> simp_all
  rw [e1]
  exact hQ h' _ u
theorem et_nat {e : Expr} {n : Nat} (h : Ev W A env G e (encI n)) (he : ∀ whole, isTrue e env whole = (do let v ← whole; standAt e.pos; holding [v] (truthy v)) := by intro _; rfl) : Et W A env G e (n != 0) := by
  intro bad s Q E F B hQ
  refine wpAny_isTrue_value (h bad s F B _ _ fun v h' tk u r => ?_) (he _)
  obtain ⟨t, rfl⟩ := rp_int r
  refine PyProof.Rows.truthy_int ?_
  have e1 : ((n : Int) != 0) = (n != 0) := by
    cases n with
    | zero => rfl
    | succ n => simp; omega
  rw [e1]
  exact hQ h' tk u

/-- a value of whatever kind, into a cell of which nothing is said -/
theorem FS.storeAny {M : Model} {E : Value → Shared → Prop} {bad : List Addr} {s : Shared} {x : Str} {c : Addr} {v : Value} {Q : Unit → Shared → Prop} (F : FS env bad G s.heap) (hk : env.scope.kind = .function) (hx : env.kindOf x = some .cell) (hc : env.cells.lookup x = some c) (hG : G.lookup x = none)
    (hQ : ∀ h', FS env bad G h' → h'.IsCell c (some v) → Heap.SameBut c s.heap h' → Q () { s with heap := h' }) : wpAny M A (storeName env x v) Q E s := by
  obtain ⟨m, n, rl⟩ := F.loc
  have hLc : ∀ y c, env.cells.lookup y = some c → env.locals ≠ c := fun y c e q => by
    obtain ⟨_, v', o, h1, h2⟩ := F.cbad y c e
    obtain ⟨o', es, ep, h3, h4, _⟩ := n
    rw [q, h1] at h3; cases h3; rw [h2] at h4; cases h4
  obtain ⟨hcb, v₀, hv₀⟩ := F.cbad x c hc
  refine wpAny_storeName_cell hk hx hc hv₀ fun h' hn hs => hQ h' ⟨fun b hb => ?_, F.lbad, fun y c' e => ⟨(F.cbad y c' e).1, ?_⟩, F.inj, ⟨m, n.sameBut hs (hLc x c hc), fun y e hy ky => ?_⟩, fun y e hy ky => ?_⟩ hn hs
  · by_cases hbc : b = c
    · subst hbc; obtain ⟨o, ho, _⟩ := hn; exact ⟨o, ho⟩
    · obtain ⟨o, e⟩ := F.stands b hb; exact ⟨o, (hs.2 b hbc).trans e⟩
  · by_cases hcc : c' = c
    · subst hcc; exact ⟨_, hn⟩
    · obtain ⟨_, v', q⟩ := F.cbad y c' e
      exact ⟨v', q.sameBut hs hcc⟩
  · obtain ⟨v', e1, e2⟩ := rl y e hy ky
    exact ⟨v', e1, e2.up (Keep.of_same hcb hs).cut⟩
  · have hyx : y ≠ x := fun q => by rw [q, hG] at hy; cases hy
    obtain ⟨c', v', e1, e2, e3⟩ := F.cel y e hy ky
    exact ⟨c', v', e1, e2.sameBut hs (fun q => hyx (F.inj y x c (q ▸ e1) hc)), e3.up (Keep.of_same hcb hs).cut⟩

theorem def_in {mg : Str → Option Value} {c P : Addr} {name : Str} {params : Arguments} {body : List Stmt} {scope : Scope} {pos : Pos} {ci : Addr} {pnames : List Str} {bad : List Addr} {s : Shared} {Q : Flow → Shared → Prop} {E : Value → Shared → Prop}
    (O : WOk W mg) (K : Mk W mg c P) (hcode : env.code = .ref c) (hge : env.globals = mainGlobals) (hk : env.scope.kind = .function) (F : FS env bad G s.heap) (B : Bs W bad s.heap) (hPb : P ∈ bad) (hP : s.heap.get? P = some (tabObj #[]))
    (hPo : ¬ Own env P) (hx : env.kindOf name = some .cell) (hci : env.cells.lookup name = some ci) (hG : G.lookup name = none)
    (hd0 : params.defaults = []) (hk0 : params.kw_defaults = []) (ha : annTrees params none env = []) (hcl : ∀ x ∈ scope.names, x.2 = .free → (env.cells.lookup x.1).isSome = true)
    (hb : ∀ doc pm cdv ctv cl q (vs : List Value), vs.length = pnames.length → bindArgs (fnX name q params body scope cl .none .none doc pm none cdv ctv) ⟨vs, []⟩ = pure (pnames.zip vs))
    (h1 : scope.kind = .function) (h2 : scope.isGenerator = false) (h3 : scope.isCoroutine = false) (h4 : ∀ x ∈ pnames, scope.names.lookup x = some .local) (h5 : ∀ p ∈ scope.names, p.2 ≠ .cell)
    (hQ : ∀ fi cdv h' tk, FS env bad G h' → Bs W bad h' → Keep [P, ci] s.heap h' → (∃ ps, h'.get? P = some (tabObj ps)) → InAt (cut h' bad) fi (qualnameIn env name name) cdv pnames body scope (closOf env.cells scope.names []) → h'.IsCell ci (some (.ref fi)) →
      Q .next { s with heap := h', toks := tk }) :
    wpAny (model W.prog W.w) A (exec (.FunctionDef name params body [] none [] scope none name pos) env) Q E s := by
  have hcib := (F.cbad name ci hci).1
  have hPci : P ≠ ci := fun q => hPo (.inr ⟨name, q ▸ hci⟩)
  obtain ⟨bm, ob, b1, b2, b3, b4, b5, b6⟩ := K.bm
  refine nestDef_K hd0 hk0 ha (makeFunction_K (mg := mg) (closureFor_eq hcl) hge (O.g.keeps B.full) hcode (K.code.keeps B.full) hP trivial rfl K.gP ⟨bm, ob, b1, b2, b3, b4, B.full _ _ b5, b6⟩ fun c' ctv doc h' tk hx' hge' hlt hrec htb => ?_)
  have hK1 : Keep [P] s.heap h' := Keep.of_ext List.mem_cons_self hx'
  have hsz : s.heap.objs.size ≤ h'.objs.size := by omega
  have big : ∀ b, s.heap.objs.size ≤ b → b ∉ bad := fun b hb q => by
    obtain ⟨o, e⟩ := F.stands b q
    exact absurd (Heap.lt_size e) (Nat.not_lt.mpr hb)
  have kc1 : Keep bad s.heap h' := hK1.more fun b hb => by rw [List.mem_singleton.mp hb]; exact hPb
  have F1 : FS env bad G h' := F.move kc1.cut (fun b o hb e => hK1 b o (fun q => hPo (by rw [← List.mem_singleton.mp q]; exact hb)) e) (fun b hb => by
    by_cases hbP : b = P
    · rw [hbP]; exact ⟨_, htb⟩
    · obtain ⟨o, e⟩ := F.stands b hb
      exact ⟨o, hK1 b o (fun q => hbP (List.mem_singleton.mp q)) e⟩) F.lbad fun y c e => (F.cbad y c e).1
  refine (F1.up (Up.push _ _)).storeAny (s := { s with heap := h'.push _, toks := tk }) hk hx hci hG fun h'' F2 hcell hs => ?_
  have kc2 : Keep bad (h'.push (fnMade name (qualnameIn env name name) params body scope (closOf env.cells scope.names []) doc ((mg (Str.ofString "__name__")).getD .none) c' ctv)) h'' := Keep.of_same hcib hs
  refine hQ h'.objs.size (.ref c') h'' tk F2 (B.keep ((kc1.trans ((Up.push _ _).keep _)).trans kc2)) ?_ ⟨_, (hs.2 P hPci).trans (Heap.get?_push_of_some _ htb)⟩ ?_ hcell
  · exact ((hK1.more fun b hb => by rw [List.mem_singleton.mp hb]; exact List.mem_cons_self).trans ((Up.push _ _).keep _)).trans (Keep.of_same (List.mem_cons_of_mem _ List.mem_cons_self) hs)
  · have hfe : h''.get? h'.objs.size = some (fnMade name (qualnameIn env name name) params body scope (closOf env.cells scope.names []) doc ((mg (Str.ofString "__name__")).getD .none) c' ctv) :=
      (hs.2 _ fun q => big _ hsz (by rw [q]; exact hcib)).trans (Heap.get?_push_size _ rfl)
    refine ⟨⟨_, _, hideAll_get _ hfe (big _ hsz), rfl, rfl, rfl, rfl, rfl, rfl, rfl, rfl, fun vs hv => hb _ _ _ _ _ _ vs hv⟩, ?_, h1, h2, h3, h4, h5⟩
    obtain ⟨c₂, oc, cvs, t, e1, e2, e3, e4⟩ := hrec
    cases e1
    exact ⟨c', oc, cvs, t, rfl, hideAll_get _ ((hs.2 _ fun q => big _ hge' (by rw [q]; exact hcib)).trans (Heap.get?_push_of_some _ e2)) (big _ hge'), e3, e4⟩
end
end Mine

namespace Mine
open PySem.Challenge (pw_gf0002_01)

/-- a call that may write the table of code at `P` -/
def FnK (W : Wd) (f P : Addr) (n : Nat) (ds : List PyData) (r : PyData) : Prop :=
  ∀ (A : Around) (bad : List Addr) (s : Shared) (vs : List Value) (Q : Value → Shared → Prop) (E : Value → Shared → Prop), Room A n → P ∈ bad → (∀ b ∈ bad, ∃ o, s.heap.get? b = some o) → Bs W bad s.heap → s.heap.get? P = some (tabObj #[]) → Rps (cut s.heap bad) vs ds →
    (∀ v h' tk, Keep [P] s.heap h' → (∃ ps, h'.get? P = some (tabObj ps)) → Rp (cut h' bad) v r → Q v { s with heap := h', toks := tk }) → wpAny (model W.prog W.w) A (call (.ref f) vs) Q E s

section
variable {W : Wd} {A : Around} {env : Env} {md : List Addr} {G G' : Cx} {S : List Addr → Heap → Prop}
theorem evs_if_t {t e₁ e₂ : Expr} {pos : Pos} {d : PyData} (hS : ∀ bad h h', S bad h → Up h h' → S bad h') (ht : Et W A env G t true) (h₁ : EvS W A env G S e₁ d) : EvS W A env G S (.IfExp t e₁ e₂ pos) d := by
  intro bad s F B T Q E hQ
  rw [arm_eval_IfExp]
  refine wpAny_bind (ht bad s _ _ F B fun h' tk u => ?_)
  exact h₁ bad _ (F.up u) (B.up u) (hS _ _ _ T u) _ _ fun v h'' tk' u' r => hQ v h'' tk' (u.trans u') r

theorem cls_of {scope : Scope} {bad : List Addr} {h : Heap} (F : FS env bad G h) (hcl : ∀ x ∈ scope.names, x.2 = .free → (env.cells.lookup x.1).isSome = true)
    (hG : ∀ x d, G'.lookup x = some d → G.lookup x = some d ∧ scope.names.lookup x = some .free ∧ (env.kindOf x = some .cell ∨ env.kindOf x = some .free)) : Cls (closOf env.cells scope.names []) scope bad G' h := by
  have key : ∀ y c, (closOf env.cells scope.names []).lookup y = some c → env.cells.lookup y = some c := fun y c e => by
    obtain ⟨k1, k2⟩ := closOf_lookup (cells := env.cells) (x := y) scope.names []
    by_cases hm : (y, NameKind.free) ∈ scope.names
    · have := hcl _ hm rfl
      rw [Option.isSome_iff_exists] at this
      obtain ⟨c', hc'⟩ := this
      rw [k1 hm, hc'] at e
      rw [hc']; exact e
    · rw [k2 hm] at e; cases e
  refine ⟨fun y c e => F.cbad y c (key y c e), fun x y c e1 e2 => F.inj x y c (key _ _ e1) (key _ _ e2), fun x d e => ?_⟩
  obtain ⟨h1, h2, h3⟩ := hG x d e
  obtain ⟨c, v, e1, e2, e3⟩ := F.cel x d h1 h3
  refine ⟨h2, c, v, ?_, e2, e3⟩
  rw [(closOf_lookup (cells := env.cells) (x := x) scope.names []).1 (mem_of_lookup h2), e1]; rfl
theorem sub2_nil {p : Str → Prop} : ∀ x (d : PyData), ([] : Cx).lookup x = some d → G.lookup x = some d ∧ p x := fun _ _ h => nomatch h
theorem sub2_cons {p : Str → Prop} {x : Str} {d : PyData} {G₁ : Cx} (k : ∀ x d, G₁.lookup x = some d → G.lookup x = some d ∧ p x) (h : G.lookup x = some d) (hp : p x) : ∀ y e, ((x, d) :: G₁).lookup y = some e → G.lookup y = some e ∧ p y := fun y e hy => by
  rw [cx_cons] at hy
  by_cases q : y = x
  · rw [if_pos q] at hy; cases hy; rw [q]; exact ⟨h, hp⟩
  · rw [if_neg q] at hy; exact k y e hy
end

theorem hclB {names : List (Str × NameKind)} {cells : List (Str × Addr)} (h : (names.all fun p => p.2 != .free || (cells.lookup p.1).isSome) = true) : ∀ x ∈ names, x.2 = .free → (cells.lookup x.1).isSome = true := fun x hx hf => by
  have := List.all_eq_true.mp h x hx
  rw [hf] at this
  simpa using this
theorem slice_all (ds : List Nat) : slice ds 0 ds.length = ds := by unfold slice; simp

theorem d2i_ok {W : Wd} {mg : Str → Option Value} {f c P : Addr} {q : Str} (O : WOk W mg) (K : Mk W mg c P) (I : FnP W 5 f q (.ref c)) (hlen : mg "len" = none) {digits : List Nat} (hd : ∀ x ∈ digits, x ≤ 1) (hl : digits.length ≤ 40) (hp : 0 < digits.length) :
    FnK W f P (digits.length + 1) [encL digits, encI 1] (encI (val digits)) := by
  intro A bad s vs Q E rm hPb st B hP rs hQ
  refine wpAny_call ?_
  have hPb0 : ∃ o, s.heap.get? P = some o := ⟨_, hP⟩
  refine fn_enter I O.lim rm st B rs.length rs fun L h₁ tk₁ E' hf u F₁ B₁ => ?_
  have rm' := rm.deeper (envOfC q (defAt pw_gf0002_01 5).2.2 L f (.ref c))
  generalize A.deeper (envOfC q (defAt pw_gf0002_01 5).2.2 L f (.ref c)) = A' at rm' ⊢
  have fin : ∀ v h' tk, Keep (P :: mdFn (defAt pw_gf0002_01 5).2.2 L) h₁ h' → (∃ ps, h'.get? P = some (tabObj ps)) → Rp (cut h' (mdFn (defAt pw_gf0002_01 5).2.2 L ++ bad)) v (encI (val digits)) → Q v { s with heap := h', toks := tk } := fun v h' tk K1 h2 r => by
    refine hQ v h' tk (fun b o hb e => K1 b o (fun q => ?_) (u b o e)) h2 (r.up (cut_less fun b hb => List.mem_append.mpr (.inr hb)))
    rcases List.mem_cons.mp q with q | q
    · exact hb (q ▸ List.mem_cons_self)
    · rw [hf b q] at e; cases e
  have hPmd : P ∉ mdFn (defAt pw_gf0002_01 5).2.2 L := fun q => by rw [hf P q] at hP; cases hP
  revert F₁ B₁ fin hPmd
  have e := (rfl : defAt pw_gf0002_01 5 = defAt pw_gf0002_01 5)
  conv at e => rhs; whnf
  rw [e]; clear e
  dsimp only
  intro F₁ B₁ fin hPmd
  refine wpAny_execs_cons (def_in (pnames := ["L", "R"]) (ci := L + 3) O K rfl rfl rfl F₁ B₁ (List.mem_append.mpr (.inr hPb)) (u _ _ hP) ?_ rfl rfl rfl rfl rfl rfl ?_ ?_ rfl rfl rfl ?_ ?_ fun fi cdv h₂ tk₂ F₂ B₂ K₂ hP₂ I₂ hc₂ => ?_)
  · rintro (q | ⟨y, q⟩)
    · exact hPmd (by rw [q]; exact own_in.l)
    · exact hPmd (own_in.c y P q)
  · exact hclB rfl
  · intro doc pm cdv ctv cl q vs hv
    match vs, hv with
    | [_, _], _ => rfl
  · decide
  · decide
  obtain ⟨q', cl, S₂, hcl⟩ : ∃ q' cl, DSt fi q' cdv cl digits _ h₂ ∧ cl.lookup (Str.ofString "inner") = some (L + 3) := ⟨_, _, ⟨I₂, cls_of F₂ (hclB rfl) (sub2_cons (sub2_cons sub2_nil rfl ⟨rfl, .inl rfl⟩) rfl ⟨rfl, .inl rfl⟩), L + 3, rfl, hc₂⟩, rfl⟩
  have hU : ∀ bad h h', DSt fi q' cdv cl digits bad h → Up h h' → DSt fi q' cdv cl digits bad h' := fun _ _ _ S u => S.up u
  have he : (!(digits.map encI).isEmpty) = true := by cases digits <;> simp_all
  have ht := slice_all digits
  refine (xrs_ret (md := []) (evs_if_t hU (he ▸ et_list (ds := digits.map encI) evn (by rw [List.length_map]; omega)) (evs_call rfl (.inr rfl) (fun bad h S => ⟨S.fn.fnAt (cut_up _ _), L + 3, rfl, ?_⟩) hU
    (fun bad s vs F B S r => d2i_inner O.lim hd hl digits.length 0 digits.length hp (Nat.le_refl _) (by omega) A' bad s vs rm' F.stands B S r) (sp_cons (d := encI 0) ev_int (sp_cons (el (xs := digits) (enc := encI) (gl_b O hlen rfl) evn (by omega)) sp_nil))))) _ _ _ E' F₂ B₂ (fun b hb => nomatch hb) S₂ fun v h₃ tk₃ K₃ r => ?_
  · obtain ⟨c₀, e1, e2⟩ := S.ci
    rw [hcl] at e1
    cases e1
    exact e2
  · rw [ht] at r
    have K₃' : Up h₂ h₃ := fun b o e => K₃ b o (fun q => nomatch q) e
    refine fin v h₃ tk₃ ((K₂.more fun b hb => ?_).trans (K₃'.keep _)) (let ⟨ps, e⟩ := hP₂; ⟨ps, K₃' _ _ e⟩) r
    simp only [List.mem_cons, List.not_mem_nil, or_false] at hb
    rcases hb with rfl | rfl
    · exact List.mem_cons_self
    · exact List.mem_cons_of_mem _ (own_in (q := q) (f := f) (cd := .ref c).c "inner" _ rfl)
end Mine

namespace Mine
open PySem.Challenge (pw_gf0002_01)

/-- a store into a list of its own: the object stays a plain one -/
theorem setItem_plain {prog : Program} {w : World} {A : Around} {E : Value → Shared → Prop} {s : Shared} {l : Addr} {items : Array Value} {n : Nat} {k : Int} {t : Tok} {v : Value} {Q : Unit → Shared → Prop}
    (ho : s.heap.get? l = some { cls := .type "list", data := .seq items n }) (h0 : 0 ≤ k) (hfit : k < 2 ^ 63) (hn : k < items.size)
    (hQ : ∀ h' n', h'.get? l = some { cls := .type "list", data := .seq (items.setIfInBounds k.toNat v) n' } → Heap.SameBut l s.heap h' → Q () { s with heap := h' }) :
    wpAny (model prog w) A (setItem (.ref l) (.int k t) v) Q E s := by
  have hl : s.heap.IsList l items := ⟨_, ho, rfl, n, rfl⟩
  unfold setItem
  try with_reducible refine wpAny_holding ?_
  first | refine wpAny_bind (wpAny_pure ?_) | skip
  refine wpAny_bind (wpAny_sequenceKey hl.typeIs (by decide) ?_)
  refine wpAny_bind (wpAny_callSpecial?_slot (name := Str.ofString "__setitem__") hl.typeIs slot_list_setitem
    (wpAny_call_entry slot_list_setitem hl.typeIs entry_list_setitem ?_ (args_list_setitem _ _ _)))
  show wpAny _ _ (Builtin.List.listSubscript? (.int k t) >>= _) _ _ s
  refine wpAny_bind (wpAny_listSubscript_int (fitsIndex_of h0 hfit) ?_)
  clear hfit
  obtain ⟨j, rfl⟩ := Int.eq_ofNat_of_zero_le h0
  have hj : j < items.size := by omega
  have hx : items[j]? = some items[j] := Array.getElem?_eq_getElem hj
  show wpAny _ _ ((seqItemAt l j >>= fun r => pure (r.map (j, ·))) >>= _) _ _ s
  refine wpAny_bind (wpAny_bind (wpAny_seqItemAt ho rfl (wpAny_pure ?_)))
  rw [hx]
  show wpAny _ _ (setSeqItemAt l j v >>= _) _ _ s
  refine wpAny_bind (wpAny_setSeqItemAt ho rfl ?_)
  have hmap : Obj.mapSeq (·.setIfInBounds j v) { cls := .type "list", data := .seq items n } = { cls := .type "list", data := .seq (items.setIfInBounds j v) n } := by simp [Obj.mapSeq]
  have hfin : (s.heap.update l (Obj.mapSeq (·.setIfInBounds j v))).get? l = some { cls := .type "list", data := .seq (items.setIfInBounds j v) n } := by
    rw [Heap.get?_update_self _ ho (by rw [hmap]; rfl), hmap]
  first
    | exact wpAny_bind (wpAny_pure (wpAny_pure ⟨.none, rfl, wpAny_pure (hQ _ n hfin (Heap.SameBut.update ..))⟩))
    | exact wpAny_pure ⟨.none, rfl, wpAny_pure (hQ _ n hfin (Heap.SameBut.update ..))⟩

def bits : Nat → Nat → List Nat
  | 0, _ => []
  | k + 1, x => x % 2 :: bits k (x / 2)
theorem bits_len : ∀ k x, (bits k x).length = k
  | 0, _ => rfl
  | k + 1, x => by rw [bits, List.length_cons, bits_len k]
theorem bits_split : ∀ a b x, bits (a + b) x = bits a (x % 2 ^ a) ++ bits b (x / 2 ^ a)
  | 0, b, x => by simp [bits]
  | a + 1, b, x => by
    rw [show a + 1 + b = (a + b) + 1 by omega, bits, bits, bits_split a b, List.cons_append]
    have e1 : x % 2 ^ (a + 1) % 2 = x % 2 := Nat.mod_mod_of_dvd _ ⟨2 ^ a, by rw [Nat.pow_succ, Nat.mul_comm]⟩
    have e2 : x % 2 ^ (a + 1) / 2 = x / 2 % 2 ^ a := by rw [Nat.pow_succ, Nat.mul_comm, Nat.mod_mul_right_div_self]
    have e3 : x / 2 / 2 ^ a = x / 2 ^ (a + 1) := by rw [Nat.div_div_eq_div_mul, Nat.pow_succ, Nat.mul_comm]
    rw [e1, e2, e3]

/-- the list that grows its digits -/
def IntsAt (h : Heap) (arr : Addr) (bs : List Nat) : Prop := ∃ vs n, h.get? arr = some { cls := .type "list", data := .seq (List.toArray vs) n } ∧ Rps h vs (bs.map encI)
theorem rps_flat {h h' : Heap} : ∀ {vs : List Value} {bs : List Nat}, Rps h vs (bs.map encI) → Rps h' vs (bs.map encI)
  | vs, [], r => by cases r; exact .nil
  | vs, b :: bs, r => by
    cases r with
    | cons a r =>
      obtain ⟨t, rfl⟩ := rp_int a
      exact .cons (.int _ _) (rps_flat r)
theorem IntsAt.at {h h' : Heap} {arr : Addr} {bs : List Nat} (x : IntsAt h arr bs) (e : ∀ o, h.get? arr = some o → h'.get? arr = some o) : IntsAt h' arr bs := let ⟨vs, n, e1, r⟩ := x; ⟨vs, n, e _ e1, rps_flat r⟩
theorem rps_set {h : Heap} : ∀ {vs : List Value} {ds : List PyData} (k : Nat) {v : Value} {d : PyData}, Rps h vs ds → Rp h v d → Rps h (vs.set k v) (ds.set k d)
  | _, _, k, v, d, .nil, _ => by simpa using Rps.nil
  | _, _, 0, v, d, .cons _ r, q => .cons q r
  | _, _, k + 1, v, d, .cons a r, q => .cons a (rps_set k r q)

abbrev ISt (fi : Addr) (q : Str) (cd : Value) (cl : List (Str × Addr)) (arr : Addr) (bad : List Addr) (h : Heap) : Prop :=
  CSt fi q cd (innerAt pw_gf0002_01 4 1).1 (innerAt pw_gf0002_01 4 1).2.1 (innerAt pw_gf0002_01 4 1).2.2 cl "inner" [("n", encI 1)] bad h ∧ ∃ c, cl.lookup (Str.ofString "a_digits") = some c ∧ h.IsCell c (some (.ref arr))

theorem ISt.move {fi : Addr} {q : Str} {cd : Value} {cl : List (Str × Addr)} {arr : Addr} {bad bad' : List Addr} {h h' : Heap} (S : ISt fi q cd cl arr bad h)
    (u : Up (cut h bad) (cut h' bad')) (hb : ∀ b ∈ bad, b ∈ bad') (k : ∀ y c, cl.lookup y = some c → ∀ o, h.get? c = some o → h'.get? c = some o) : ISt fi q cd cl arr bad' h' :=
  ⟨S.1.move u hb k, let ⟨c, e, o, h1, h2⟩ := S.2; ⟨c, e, o, k _ c e _ h1, h2⟩⟩

theorem use_ev {W : Wd} {A : Around} {env : Env} {G : Cx} {e : Expr} {d : PyData} {bad : List Addr} {s : Shared} {Q : Value → Shared → Prop} {E : Value → Shared → Prop} (h : Ev W A env G e d) (F : FS env bad G s.heap) (B : Bs W bad s.heap)
    (k : ∀ v h' tk, Up s.heap h' → Rp (cut h' bad) v d → Q v { s with heap := h', toks := tk }) : wpAny (model W.prog W.w) A (eval e env) Q E s := h bad s F B Q E k
theorem use_et {W : Wd} {A : Around} {env : Env} {G : Cx} {e : Expr} {b : Bool} {bad : List Addr} {s : Shared} {Q : Bool → Shared → Prop} {E : Value → Shared → Prop} (h : Et W A env G e b) (F : FS env bad G s.heap) (B : Bs W bad s.heap)
    (k : ∀ h' tk, Up s.heap h' → Q b { s with heap := h', toks := tk }) : wpAny (model W.prog W.w) A (isTrue e env (eval e env)) Q E s := h bad s Q E F B k

theorem use_x {W : Wd} {A : Around} {env : Env} {md : List Addr} {G G' : Cx} {st : Stmt} {sts : List Stmt} {bad : List Addr} {s : Shared} {Q : Flow → Shared → Prop} {E : Value → Shared → Prop} (h : X W A env md G st G') (F : FS env bad G s.heap) (B : Bs W bad s.heap) (hm : ∀ b ∈ md, b ∈ bad)
    (k : ∀ h' tk, FS env bad G' h' → Bs W bad h' → Keep md s.heap h' → wpAny (model W.prog W.w) A (execs sts env) Q E { s with heap := h', toks := tk }) : wpAny (model W.prog W.w) A (execs (st :: sts) env) Q E s :=
  wpAny_execs_cons (h bad s _ E F B hm fun h' tk F' B' K => k h' tk F' B' K)
theorem wp_callcell {W : Wd} {A : Around} {env : Env} {G : Cx} {bad : List Addr} {s : Shared} {Q : Value → Shared → Prop} {E : Value → Shared → Prop} {x : Str} {p pos : Pos} {f c : Addr} {e : Expr} {es : List Expr} {ds : List PyData} (hk : env.scope.kind = .function) (hx : env.kindOf x = some .free ∨ env.kindOf x = some .cell)
    (hfa : FnAt f s.heap) (e1 : env.cells.lookup x = some c) (e2 : s.heap.IsCell c (some (.ref f))) (hs : Sp W A env G (e :: es) ds) (F : FS env bad G s.heap) (B : Bs W bad s.heap)
    (k : ∀ vs h' tk, Up s.heap h' → Rps (cut h' bad) vs ds → wpAny (model W.prog W.w) A (call (.ref f) vs) Q E { s with heap := h', toks := tk })
    (he : starEach (e :: es) env = (false, eval e env) :: starEach es env := by rfl) (hpl : (backTo pos (starEach es env)).any (·.1) = false := by rfl) (hd : (x == ("__debug__" : Str)) = false := by decide) (hcd : (x == ("__classdict__" : Str)) = false := by decide) :
    wpAny (model W.prog W.w) A (eval (.Call (.Name x p) (e :: es) [] pos) env) Q E s := by
  refine Call_Name rfl (wpAny_Name ?_ hd)
  have tail : wpAny (model W.prog W.w) A (callWith pos (.ref f) [] (backTo pos (starEach (e :: es) env)) []) Q E s := by
    refine callWith_F hfa ?_ he hpl
    refine hs pos bad s _ _ F B fun vs h' tk u rs => ⟨let ⟨o1, o2, o3, o4, h⟩ := hfa; ⟨o1, o2, o3, o4, u _ _ h⟩, ?_⟩
    rw [List.nil_append]
    exact k vs h' tk u rs
  exact hx.elim (fun hx => wpAny_loadName_free hk hx e1 e2 tail hcd) fun hx => wpAny_loadName_cell hk hx e1 e2 tail

theorem FS.off {env : Env} {bad : List Addr} {G : Cx} {h h' : Heap} {a : Addr} (F : FS env bad G h) (K : Keep [a] h h') (ha : a ∈ bad) (hn : ¬ Own env a) (st : ∃ o, h'.get? a = some o) : FS env bad G h' :=
  F.move (K.more fun b hb => by rw [List.mem_singleton.mp hb]; exact ha).cut (fun b o hb e => K b o (fun q => hn (by rw [← List.mem_singleton.mp q]; exact hb)) e) (fun b hb => by
    by_cases q : b = a
    · rw [q]; exact st
    · obtain ⟨o, e⟩ := F.stands b hb
      exact ⟨o, K b o (fun q' => q (List.mem_singleton.mp q')) e⟩) F.lbad fun y c e => (F.cbad y c e).1
theorem parts {bs : List Nat} {L M R : Nat} (B1 B2 : List Nat) (h1 : L ≤ M) (h2 : M ≤ R) (h3 : R ≤ bs.length) (hb : B1.length = M - L) :
    (bs.take L ++ B1 ++ bs.drop M).length = bs.length ∧ (bs.take L ++ B1 ++ bs.drop M).take M ++ B2 ++ (bs.take L ++ B1 ++ bs.drop M).drop R = bs.take L ++ (B1 ++ B2) ++ bs.drop R := by
  have e1 : (bs.take L ++ B1).length = M := by rw [List.length_append, List.length_take, hb]; omega
  refine ⟨by rw [List.length_append, e1, List.length_drop]; omega, ?_⟩
  have e2 : (bs.take L ++ B1 ++ bs.drop M).take M = bs.take L ++ B1 := by
    have := List.take_left (l₁ := bs.take L ++ B1) (l₂ := bs.drop M)
    rwa [e1] at this
  have e3 : (bs.take L ++ B1 ++ bs.drop M).drop R = bs.drop R := by
    have : R = (bs.take L ++ B1).length + (R - M) := by rw [e1]; omega
    rw [this, List.drop_append, List.drop_drop, e1]
    simp [e1]
  rw [e2, e3, List.append_assoc (bs.take L)]

theorem i2d_inner {W : Wd} (lim : W.base.NoLimit) {fi : Addr} {q : Str} {cd : Value} {cl : List (Str × Addr)} {arr : Addr} : ∀ m L R x (bs : List Nat), L < R → R ≤ bs.length → R - L ≤ m → x < 2 ^ (R - L) → bs.length ≤ 40 →
    ∀ (A : Around) (bad : List Addr) (s : Shared) (vs : List Value) (Q : Value → Shared → Prop) (E : Value → Shared → Prop), Room A m → (∀ b ∈ bad, ∃ o, s.heap.get? b = some o) → Bs W bad s.heap → ISt fi q cd cl arr bad s.heap → arr ∈ bad → IntsAt s.heap arr bs →
      Rps (cut s.heap bad) vs [encI x, encI L, encI R] →
      (∀ v h' tk, Keep [arr] s.heap h' → IntsAt h' arr (bs.take L ++ bits (R - L) x ++ bs.drop R) → Q v { s with heap := h', toks := tk }) → wpAny (model W.prog W.w) A (call (.ref fi) vs) Q E s := by
  intro m
  induction m with
  | zero => intro L R x bs h1 h2 h3; omega
  | succ m ih =>
    intro L R x bs h1 h2 h3 hx hz A bad s vs Q E rm st B S harr hi r hQ
    refine wpAny_call ?_
    refine in_enter (S.1.fn.up (cut_up _ _)) lim rm st B S.1.cls r.length r fun F h₁ tk₁ E' fF u₁ FS₁ B₁ => ?_
    have rm' := rm.deeper (envI q (innerAt pw_gf0002_01 4 1).2.2 F fi cd cl)
    generalize A.deeper (envI q (innerAt pw_gf0002_01 4 1).2.2 F fi cd cl) = A' at rm' ⊢
    have S₁ : ISt fi q cd cl arr (F :: bad) h₁ := S.move ((cut_add (own := [F]) fun b hb => by rw [List.mem_singleton.mp hb]; exact fF).trans (u₁.keep _).cut) (fun b hb => List.mem_cons_of_mem _ hb) fun _ c _ o e => u₁ c o e
    have hne : ∀ y c, cl.lookup y = some c → c ≠ F := fun y c e q => by
      obtain ⟨_, v, o, h1, _⟩ := S.1.cls.cb y c e
      rw [q, fF] at h1; cases h1
    have hnarr : ∀ y c, cl.lookup y = some c → c ≠ arr := fun y c e q => by
      obtain ⟨_, v, o, h1, h2⟩ := S.1.cls.cb y c e
      obtain ⟨vs, n, e', _⟩ := hi
      rw [q, e'] at h1; cases h1; cases h2
    have hnF : arr ≠ F := fun q => by
      obtain ⟨vs, n, e', _⟩ := hi
      rw [q, fF] at e'; cases e'
    have hi₁ : IntsAt h₁ arr bs := hi.at fun o e => u₁ _ _ e
    have key : ∀ (s₂ : Shared) (Q₂ : Value → Shared → Prop), FS (envI q (innerAt pw_gf0002_01 4 1).2.2 F fi cd cl) (F :: bad) (((innerAt pw_gf0002_01 4 1).1.zip [encI x, encI L, encI R]).reverse ++ ([("n", encI 1)] : Cx)) s₂.heap → Bs W (F :: bad) s₂.heap → ISt fi q cd cl arr (F :: bad) s₂.heap → IntsAt s₂.heap arr bs →
        (∀ v h' tk, Keep [F, arr] s₂.heap h' → IntsAt h' arr (bs.take L ++ bits (R - L) x ++ bs.drop R) → Q₂ v { s₂ with heap := h', toks := tk }) →
        wpAny (model W.prog W.w) A' (execs (innerAt pw_gf0002_01 4 1).2.1 (envI q (innerAt pw_gf0002_01 4 1).2.2 F fi cd cl)) (fun fl s' => Q₂ (match fl with | .ret v => v | _ => .none) s') E' s₂ := by
      have e := (rfl : innerAt pw_gf0002_01 4 1 = innerAt pw_gf0002_01 4 1)
      conv at e => rhs; whnf
      rw [e]; clear e
      dsimp only
      intro s₂ Q₂ F₂ B₂ S₂ hi₂ hQ₂
      by_cases hLR : L + 1 = R
      · subst hLR
        refine wpAny_execs_cons (wpAny_If (use_et (et_cmp (eAdd (b := 1) (a := L) evn ev_int) evn (b := true) (cmp_eq (shI (k := 0) _).shaped (shI (k := 0) _).shaped rm'.u64 (by rw [eqv_I]; simp))) F₂ B₂ fun h₃ tk₃ u₃ => ?_))
        have F₃ := F₂.up u₃
        have B₃ := B₂.up u₃
        refine wpAny_execs_cons (wpAny_Assign_Subscript (use_ev (evn (d := encI x)) F₃ B₃ fun v h₄ tk₄ u₄ rv => ?_))
        obtain ⟨c, hc1, o, hc2, hc3⟩ := S₂.2
        refine wpAny_Name (wpAny_loadName_free rfl rfl hc1 ⟨o, u₄ _ _ (u₃ _ _ hc2), hc3⟩ ?_)
        refine use_ev (evn (d := encI L)) (F₃.up u₄) (B₃.up u₄) fun vL h₅ tk₅ u₅ rL => ?_
        obtain ⟨t, rfl⟩ := rp_int rL
        have u25 : Up s₂.heap h₅ := (u₃.trans u₄).trans u₅
        obtain ⟨ws, n, e5, rws⟩ := hi₂.at (h' := h₅) fun o e => u25 _ _ e
        have hwl : ws.length = bs.length := by rw [rws.length, List.length_map]
        refine setItem_plain e5 (by omega) (by omega) (by simp; omega) fun h₆ n' e6 hs6 => ?_
        refine wpAny_execs_cons (wpAny_Return_none ?_)
        refine hQ₂ _ h₆ tk₅ ((u25.keep _).trans (Keep.of_same (List.mem_cons_of_mem _ List.mem_cons_self) hs6)) ⟨ws.set L v, n', ?_, ?_⟩
        · rw [e6]; simp
        · have hx2 : x < 2 := by rw [show L + 1 - L = 1 by omega] at hx; omega
          have eb : bs.take L ++ bits (L + 1 - L) x ++ bs.drop (L + 1) = bs.set L x := by
            rw [show L + 1 - L = 1 by omega, bits, bits, Nat.mod_eq_of_lt hx2, List.set_eq_take_append_cons_drop]
            simp [show L < bs.length by omega]
          rw [eb, List.map_set]
          obtain ⟨t', rfl⟩ := rp_int rv
          exact rps_set L (rps_flat rws) (.int _ _)
      · have hm : ∀ b ∈ [F], b ∈ F :: bad := fun b hb => by rw [List.mem_singleton.mp hb]; exact List.mem_cons_self
        refine use_x (md := [F]) (x_if_f (et_cmp (eAdd (b := 1) (a := L) evn ev_int) evn (b := false) (cmp_eq (shI (k := 0) _).shaped (shI (k := 0) _).shaped rm'.u64 (by rw [eqv_I]; simpa using hLR))) xs_nil) F₂ B₂ hm fun h₃ tk₃ F₃ B₃ K₃ => ?_
        have hx64 : x < 2 ^ 40 := Nat.lt_of_lt_of_le hx (Nat.pow_le_pow_right (by decide) (by omega))
        have hpos : 0 < 2 ^ (((L + R) / 2 ^ 1 - L) * 1) := Nat.two_pow_pos _
        have hdm : x / 2 ^ (((L + R) / 2 ^ 1 - L) * 1) ≤ x := Nat.div_le_self _ _
        refine use_x (md := [F]) (xal (d := encI ((L + R) / 2 ^ 1)) List.mem_cons_self (eShr (b := 1) (eAdd (a := L) (b := R) evn evn) ev_int)) F₃ B₃ hm fun h₄ tk₄ F₄ B₄ K₄ => ?_
        refine use_x (md := [F]) (xal (d := encI (((L + R) / 2 ^ 1 - L) * 1)) List.mem_cons_self (eMul (eSub evn evn (by omega)) evn (by omega))) F₄ B₄ hm fun h₅ tk₅ F₅ B₅ K₅ => ?_
        refine use_x (md := [F]) (xal (d := encI (x / 2 ^ (((L + R) / 2 ^ 1 - L) * 1))) List.mem_cons_self (eShr evn evn)) F₅ B₅ hm fun h₆ tk₆ F₆ B₆ K₆ => ?_
        refine use_x (md := [F]) (xal (d := encI (x ^^^ (x / 2 ^ (((L + R) / 2 ^ 1 - L) * 1) * 2 ^ (((L + R) / 2 ^ 1 - L) * 1)))) List.mem_cons_self (eXor evn (eShl evn evn (by omega) (by omega)))) F₆ B₆ hm fun h₇ tk₇ F₇ B₇ K₇ => ?_
        rw [xor_low] at F₇
        have K27 : Keep [F] s₂.heap h₇ := ((((K₃.trans K₄).trans K₅).trans K₆).trans K₇)
        have hcl : ∀ y c, cl.lookup y = some c → c ∉ [F] := fun y c e q => hne y c e (List.mem_singleton.mp q)
        have S₇ : ISt fi q cd cl arr (F :: bad) h₇ := S₂.move (K27.more hm).cut (fun _ q => q) fun y c e o h => K27 c o (hcl y c e) h
        have hi₇ : IntsAt h₇ arr bs := hi₂.at fun o e => K27 _ o (fun q => hnF (List.mem_singleton.mp q)) e
        have hm1 : L < (L + R) / 2 ^ 1 := by omega
        have hm2 : (L + R) / 2 ^ 1 < R := by omega
        generalize (L + R) / 2 ^ 1 = M at *
        rw [Nat.mul_one] at F₇ hpos hdm
        have hab : arr ∈ F :: bad := List.mem_cons_of_mem _ harr
        have hno : ∀ (scope : Scope), ¬ Own (envI q scope F fi cd cl) arr := fun _ q => q.elim (fun q => hnF q) fun ⟨y, q⟩ => hnarr y _ q rfl
        have hU : ∀ h h', ISt fi q cd cl arr (F :: bad) h → Up h h' → ISt fi q cd cl arr (F :: bad) h' := fun h h' S u => S.move (u.keep _).cut (fun _ q => q) fun _ c _ o e => u c o e
        have hA : ∀ h h', ISt fi q cd cl arr (F :: bad) h → Keep [arr] h h' → ISt fi q cd cl arr (F :: bad) h' := fun h h' S K => S.move (K.more fun b hb => by rw [List.mem_singleton.mp hb]; exact hab).cut (fun _ q => q) fun y c e o h => K c o (fun q => hnarr y c e (List.mem_singleton.mp q)) h
        have hkb : ∀ h h', Keep [arr] h h' → Keep (F :: bad) h h' := fun h h' K => K.more fun b hb => by rw [List.mem_singleton.mp hb]; exact hab
        obtain ⟨c, hc1, hc2⟩ := S₇.1.ci
        refine wpAny_execs_cons (wpAny_Expr_any (wp_callcell rfl (.inl rfl) (S₇.1.fn.fnAt (cut_up _ _)) hc1 hc2 (sp_cons (evn (d := encI (x % 2 ^ (M - L)))) (sp_cons (evn (d := encI L)) (sp_cons (evn (d := encI M)) sp_nil))) F₇ B₇ fun vs₁ h₈ tk₈ u₈ r₈ => ?_))
        refine ih L M (x % 2 ^ (M - L)) bs hm1 (by omega) (by omega) (Nat.mod_lt _ (Nat.two_pow_pos _)) hz A' (F :: bad) _ vs₁ _ _ rm' (F₇.up u₈).stands (B₇.up u₈) (hU _ _ S₇ u₈) hab (hi₇.at fun o e => u₈ _ _ e) r₈ fun v₁ h₉ tk₉ K₉ hi₉ => ?_
        have F₉ := (F₇.up u₈).off K₉ hab (hno _) (let ⟨_, _, e, _⟩ := hi₉; ⟨_, e⟩)
        have B₉ := (B₇.up u₈).keep (hkb _ _ K₉)
        have S₉ := hA _ _ (hU _ _ S₇ u₈) K₉
        obtain ⟨pl, pe⟩ := parts (bs := bs) (bits (M - L) (x % 2 ^ (M - L))) (bits (R - M) (x / 2 ^ (M - L))) (Nat.le_of_lt hm1) (Nat.le_of_lt hm2) h2 (bits_len _ _)
        obtain ⟨c', hc3, hc4⟩ := S₉.1.ci
        refine wpAny_execs_cons (wpAny_Expr_any (wp_callcell rfl (.inl rfl) (S₉.1.fn.fnAt (cut_up _ _)) hc3 hc4 (sp_cons (evn (d := encI (x / 2 ^ (M - L)))) (sp_cons (evn (d := encI M)) (sp_cons (evn (d := encI R)) sp_nil))) F₉ B₉ fun vs₂ hA₁ tkA uA rA => ?_))
        have hx2 : x / 2 ^ (M - L) < 2 ^ (R - M) := by
          rw [Nat.div_lt_iff_lt_mul (Nat.two_pow_pos _), ← Nat.pow_add]
          rw [show R - M + (M - L) = R - L by omega]; exact hx
        refine ih M R (x / 2 ^ (M - L)) _ hm2 (by rw [pl]; exact h2) (by omega) hx2 (by rw [pl]; exact hz) A' (F :: bad) _ vs₂ _ _ rm' (F₉.up uA).stands (B₉.up uA) (hU _ _ S₉ uA) hab (hi₉.at fun o e => uA _ _ e) rA fun v₂ hB tkB KB hiB => ?_
        refine wpAny_execs_nil (hQ₂ _ hB tkB ?_ ?_)
        · have k1 : ∀ {h h'}, Keep [arr] h h' → Keep [F, arr] h h' := fun K => K.more fun b hb => by rw [List.mem_singleton.mp hb]; exact List.mem_cons_of_mem _ List.mem_cons_self
          have k2 : ∀ {h h'}, Keep [F] h h' → Keep [F, arr] h h' := fun K => K.more fun b hb => by rw [List.mem_singleton.mp hb]; exact List.mem_cons_self
          exact ((((k2 K27).trans (u₈.keep _)).trans (k1 K₉)).trans (uA.keep _)).trans (k1 KB)
        · rw [pe, ← bits_split, show M - L + (R - M) = R - L by omega] at hiB
          exact hiB
    refine key _ (fun v s' => Q v s') FS₁ B₁ S₁ hi₁ fun v h' tk K r' => ?_
    refine hQ v h' tk (fun b o hb e => K b o (fun q => ?_) (u₁ b o e)) r'
    rcases List.mem_cons.mp q with q | q
    · rw [q, fF] at e; cases e
    · exact hb q
end Mine

namespace Mine
open PySem.Challenge (pw_gf0002_01)

def nb2 (a : Nat) : Nat := Builtin.Int.intBits (a : Int)
theorem lt_nb2 (a : Nat) : a < 2 ^ nb2 a := by
  unfold nb2 Builtin.Int.intBits
  by_cases h : a = 0
  · subst h; decide
  · rw [if_neg (by simpa using h), Int.natAbs_natCast]
    exact Nat.lt_log2_self
theorem nb2_le {a k : Nat} (h : a < 2 ^ k) : nb2 a ≤ k := by
  unfold nb2 Builtin.Int.intBits
  by_cases h0 : a = 0
  · subst h0; simp
  · rw [if_neg (by simpa using h0), Int.natAbs_natCast]
    exact (Nat.log2_lt h0).mpr h
theorem nb2_pos {a : Nat} (h : a ≠ 0) : 0 < nb2 a := by
  unfold nb2 Builtin.Int.intBits
  rw [if_neg (by simpa using h)]; omega

theorem ns_uniq {h : Heap} {a : Addr} {m m' : Str → Option Value} (x : h.Ns a m) (y : h.Ns a m') : m = m' := by
  obtain ⟨o, es, ep, e1, e2, _, e3⟩ := x
  obtain ⟨o', es', ep', f1, f2, _, f3⟩ := y
  rw [e1] at f1; cases f1
  rw [e2] at f2; cases f2
  funext n; rw [← e3 n, f3 n]
/-- what turned is at rest: its cell's name is known again -/
theorem FS.revealC {env : Env} {bad : List Addr} {G : Cx} {h : Heap} {a c : Addr} {x : Str} {v : Value} {d : PyData} (F : FS env (a :: bad) G h) (hl : env.locals ∈ bad) (hc : ∀ y c, env.cells.lookup y = some c → c ∈ bad) (hk : env.kindOf x = some .cell) (hx : env.cells.lookup x = some c) (hv : h.IsCell c (some v)) (r : Rp (cut h bad) v d) :
    FS env bad ((x, d) :: G) h := by
  have F' : FS env bad G h := F.move (cut_less fun b hb => List.mem_cons_of_mem _ hb) (fun _ _ _ e => e) (fun b hb => F.stands b (List.mem_cons_of_mem _ hb)) hl hc
  refine ⟨F'.stands, F'.lbad, F'.cbad, F'.inj, ?_, fun y e hy ky => ?_⟩
  · obtain ⟨m, n, rl⟩ := F'.loc
    refine ⟨m, n, fun y e hy ky => ?_⟩
    rw [cx_cons] at hy
    by_cases q : y = x
    · subst q; rw [hk] at ky; cases ky
    · rw [if_neg q] at hy; exact rl y e hy ky
  · rw [cx_cons] at hy
    by_cases q : y = x
    · subst q; rw [if_pos rfl] at hy; cases hy; exact ⟨c, v, hx, hv, r⟩
    · rw [if_neg q] at hy; exact F'.cel y e hy ky
theorem FS.revealL {env : Env} {bad : List Addr} {G : Cx} {h : Heap} {a : Addr} {m : Str → Option Value} {x : Str} {v : Value} {d : PyData} (F : FS env (a :: bad) G h) (hl : env.locals ∈ bad) (hc : ∀ y c, env.cells.lookup y = some c → c ∈ bad) (hk : env.kindOf x = some .local) (hn : h.Ns env.locals m) (hx : m x = some v) (r : Rp (cut h bad) v d) :
    FS env bad ((x, d) :: G) h := by
  have F' : FS env bad G h := F.move (cut_less fun b hb => List.mem_cons_of_mem _ hb) (fun _ _ _ e => e) (fun b hb => F.stands b (List.mem_cons_of_mem _ hb)) hl hc
  refine ⟨F'.stands, F'.lbad, F'.cbad, F'.inj, ?_, fun y e hy ky => ?_⟩
  · obtain ⟨m', n, rl⟩ := F'.loc
    refine ⟨m', n, fun y e hy ky => ?_⟩
    rw [cx_cons] at hy
    by_cases q : y = x
    · subst q; rw [if_pos rfl] at hy; cases hy
      rw [ns_uniq n hn]
      exact ⟨v, hx, r⟩
    · rw [if_neg q] at hy; exact rl y e hy ky
  · rw [cx_cons] at hy
    by_cases q : y = x
    · subst q; rw [hk] at ky; rcases ky with ky | ky <;> cases ky
    · rw [if_neg q] at hy; exact F'.cel y e hy ky

theorem i2d_ok {W : Wd} {mg : Str → Option Value} {f c P : Addr} {q : Str} (O : WOk W mg) (K : Mk W mg c P) (I : FnP W 4 f q (.ref c)) (hlen : mg "len" = none) {a : Nat} (ha : a < 2 ^ 10) :
    FnK W f P 12 [encI a, encI 1] (encL (bits (nb2 a) a)) := by
  intro A bad s vs Q E rm hPb st B hP rs hQ
  refine wpAny_call ?_
  have hN := nb2_le ha
  refine fn_enter I O.lim rm st B rs.length rs fun L h₁ tk₁ E' hf u F₁ B₁ => ?_
  have rm' := rm.deeper (envOfC q (defAt pw_gf0002_01 4).2.2 L f (.ref c))
  generalize A.deeper (envOfC q (defAt pw_gf0002_01 4).2.2 L f (.ref c)) = A' at rm' ⊢
  have fin : ∀ arr h' tk, (∀ b o, s.heap.get? b = some o → b ≠ P → h'.get? b = some o) → (∃ ps, h'.get? P = some (tabObj ps)) → IntsAt h' arr (bits (nb2 a) a) → arr ∉ bad → Q (.ref arr) { s with heap := h', toks := tk } := fun arr h' tk K1 h2 ⟨ws, n, e, r⟩ hn => by
    refine hQ _ h' tk (fun b o hb e => K1 b o e fun q => hb (q ▸ List.mem_cons_self)) h2 (.list (hideAll_get _ e hn) (rps_flat r))
  have hOwn : ∀ b, Own (envOfC q (defAt pw_gf0002_01 4).2.2 L f (.ref c)) b → s.heap.get? b = none := fun b hb => hb.elim (fun e => by rw [e]; exact hf L List.mem_cons_self) fun ⟨y, e⟩ => hf _ (own_in.c y b e)
  clear hf
  revert F₁ B₁ hOwn
  generalize mdFn (defAt pw_gf0002_01 4).2.2 L = mdL
  have e := (rfl : defAt pw_gf0002_01 4 = defAt pw_gf0002_01 4)
  conv at e => rhs; whnf
  rw [e]; clear e
  dsimp only
  intro F₁ B₁ hOwn
  refine wpAny_execs_cons (wpAny_Assign_Name (wpAny_BinOp (use_ev (ev_list (ds := [encI 0]) (sp_cons ev_int sp_nil) (le_line (show 1 ≤ 4000 by decide))) F₁ B₁ fun v₂ h₂ tk₂ u₂ r₂ => ?_)))
  have eN : (nb2 a + 1 - 1) / 1 = nb2 a := by omega
  refine use_ev (d := encI (nb2 a)) (eN ▸ eDiv (eSub (eAdd (eBits (a := a) evn) (b := 1) evn) (b := 1) ev_int (by omega)) evn (by decide) (by decide)) (F₁.up u₂) (B₁.up u₂) fun v₃ h₃ tk₃ u₃ r₃ => ?_
  obtain ⟨l, ws, n, rfl, _, el0, _, rl⟩ := rp_list (r₂.up (u₃.keep _).cut)
  obtain ⟨t₃, rfl⟩ := rp_int r₃
  obtain ⟨z, rfl, rz⟩ := rps_one rl
  obtain ⟨tz, rfl⟩ := rp_int rz
  refine mul_list' el0 (by omega) (by omega) (by simp; omega) ?_
  have ev : (List.foldl (fun x1 x2 => x1 ++ x2) #[] (List.replicate (if ([Value.int ((0 : Nat) : Int) tz].toArray : Array Value).isEmpty = true then 0 else (nb2 a : Int).toNat) [Value.int ((0 : Nat) : Int) tz].toArray)) = (List.replicate (nb2 a) (Value.int ((0 : Nat) : Int) tz)).toArray := by
    have : ([Value.int ((0 : Nat) : Int) tz].toArray : Array Value).isEmpty = false := rfl
    rw [this]
    simp only [Bool.false_eq_true, if_false, Int.toNat_natCast]
    rw [listMul_foldl]
    simp
  rw [ev]; clear ev
  have F₃ := (F₁.up u₂).up u₃
  have B₃ := (B₁.up u₂).up u₃
  have u13 : Up h₁ h₃ := u₂.trans u₃
  have fr : h₃.get? h₃.objs.size = none := by
    cases e : h₃.get? h₃.objs.size with
    | none => rfl
    | some o => exact absurd (Heap.lt_size e) (Nat.lt_irrefl _)
  have big : ∀ b ∈ bad, b ≠ h₃.objs.size := fun b hb q => by
    obtain ⟨o, e⟩ := st b hb
    have := u13 _ _ (u _ _ e)
    rw [q, fr] at this; cases this
  generalize hH : h₃.push { cls := .type "list", data := .seq (List.replicate (nb2 a) (Value.int ((0 : Nat) : Int) tz)).toArray } = H
  have uH : Up h₃ H := by rw [← hH]; exact Up.push _ _
  have hi : IntsAt H h₃.objs.size (List.replicate (nb2 a) 0) := by
    refine ⟨List.replicate (nb2 a) (Value.int ((0 : Nat) : Int) tz), 0, by rw [← hH]; exact Heap.get?_push_size _ rfl, ?_⟩
    have : ∀ k : Nat, Rps H (List.replicate k (Value.int ((0 : Nat) : Int) tz)) ((List.replicate k 0).map encI) := by
      intro k
      induction k with
      | zero => exact .nil
      | succ k ih => rw [List.replicate_succ, List.replicate_succ, List.map_cons]; exact .cons (.int _ _) ih
    exact this _
  generalize harr : h₃.objs.size = arr at fr big hi
  have frs : ∀ b ∈ [arr], h₃.get? b = none := fun b hb => by rw [List.mem_singleton.mp hb]; exact fr
  have F₄ := F₃.grow (own := [arr]) uH frs (fun b hb => by rw [List.mem_singleton.mp hb]; obtain ⟨_, _, e, _⟩ := hi; exact ⟨_, e⟩)
  have B₄ := B₃.move ((cut_add (own := [arr]) frs).trans (uH.keep _).cut)
  refine F₄.storeAny (s := { s with heap := H, toks := tk₃ }) (c := L + 2) rfl rfl rfl rfl fun h₅ F₅ hc₅ hs₅ => ?_
  have h2n : s.heap.get? (L + 2) = none := hOwn _ (.inr ⟨"a_digits", rfl⟩)
  have h3n : s.heap.get? (L + 3) = none := hOwn _ (.inr ⟨"inner", rfl⟩)
  have hmd2 : (L + 2) ∈ [arr] ++ (mdL ++ bad) := (F₄.cbad "a_digits" _ rfl).1
  have B₅ : Bs W ([arr] ++ (mdL ++ bad)) h₅ := B₄.keep (Keep.of_same hmd2 hs₅)
  have k05 : ∀ b o, s.heap.get? b = some o → h₅.get? b = some o := fun b o e => (hs₅.2 b fun q => by rw [q, h2n] at e; cases e).trans (uH _ _ (u13 _ _ (u _ _ e)))
  have ha2 : arr ≠ L + 2 := fun q => by
    obtain ⟨ws, n, e, _⟩ := hi
    obtain ⟨v, o, e1, e2⟩ := (F₄.cbad "a_digits" (L + 2) rfl).2
    rw [q, e1] at e; cases e; cases e2
  have ha3 : arr ≠ L + 3 := fun q => by
    obtain ⟨ws, n, e, _⟩ := hi
    obtain ⟨v, o, e1, e2⟩ := (F₄.cbad "inner" (L + 3) rfl).2
    rw [q, e1] at e; cases e; cases e2
  have haP : arr ≠ P := big P hPb |>.symm
  have hi₅ : IntsAt h₅ arr (List.replicate (nb2 a) 0) := hi.at fun o e => (hs₅.2 _ ha2).trans e
  refine wpAny_execs_cons (def_in (pnames := ["x", "L", "R"]) (ci := L + 3) O K rfl rfl rfl F₅ B₅ (List.mem_append.mpr (.inr (List.mem_append.mpr (.inr hPb)))) (k05 _ _ hP) (fun q => by have := hOwn P q; rw [hP] at this; cases this) rfl rfl rfl rfl rfl rfl (hclB rfl) ?_ rfl rfl rfl ?_ ?_ fun fi cdv h₆ tk₆ F₆ B₆ K₆ hP₆ I₆ hc₆ => ?_)
  · intro doc pm cdv ctv cl q vs hv
    match vs, hv with
    | [_, _, _], _ => rfl
  · decide
  · decide
  have h23 : (L + 2) ∉ [P, L + 3] := fun q => by
    simp only [List.mem_cons, List.not_mem_nil, or_false] at q
    rcases q with q | q
    · rw [q, hP] at h2n; cases h2n
    · exact absurd (Nat.add_left_cancel q) (by decide)
  have haK : arr ∉ [P, L + 3] := fun q => by
    simp only [List.mem_cons, List.not_mem_nil, or_false] at q
    exact q.elim haP ha3
  have hc26 : h₆.IsCell (L + 2) (some (.ref arr)) := let ⟨o, e1, e2⟩ := hc₅; ⟨o, K₆ _ o h23 e1, e2⟩
  have hi₆ : IntsAt h₆ arr (List.replicate (nb2 a) 0) := hi₅.at fun o e => K₆ _ o haK e
  have k06 : ∀ b o, s.heap.get? b = some o → b ≠ P → h₆.get? b = some o := fun b o e hb => K₆ b o (fun q => by
    simp only [List.mem_cons, List.not_mem_nil, or_false] at q
    rcases q with q | q
    · exact hb q
    · rw [q, h3n] at e; cases e) (k05 b o e)
  obtain ⟨q', cl, S₆, hcl⟩ : ∃ q' cl, ISt fi q' cdv cl arr _ h₆ ∧ cl.lookup (Str.ofString "inner") = some (L + 3) :=
    ⟨_, _, ⟨⟨I₆, cls_of F₆ (hclB rfl) (sub2_cons sub2_nil rfl ⟨rfl, .inl rfl⟩), L + 3, rfl, hc₆⟩, L + 2, rfl, hc26⟩, rfl⟩
  have hbig : arr ∉ bad := fun q => big arr q rfl
  have hab : arr ∈ [arr] ++ (mdL ++ bad) := List.mem_append.mpr (.inl List.mem_cons_self)
  have hone : ∀ b ∈ [arr], b ∈ [arr] ++ (mdL ++ bad) := fun b hb => List.mem_append.mpr (.inl hb)
  have fin' : ∀ h' tk, Keep [arr] h₆ h' → IntsAt h' arr (bits (nb2 a) a) → Q (.ref arr) { s with heap := h', toks := tk } := fun h' tk k hi' =>
    fin arr h' tk (fun b o e hb => k b o (fun q => by
      rw [List.mem_singleton.mp q] at e
      have := u13 _ _ (u _ _ e)
      rw [fr] at this; cases this) (k06 b o e hb)) (let ⟨ps, e⟩ := hP₆; ⟨ps, k P _ (fun q => haP (List.mem_singleton.mp q).symm) e⟩) hi' hbig
  by_cases ha0 : a = 0
  · subst ha0
    refine use_x (md := []) (x_if_f (b₂ := []) (et_nat (n := 0) (evn (d := encI 0))) xs_nil) F₆ B₆ (fun b hb => nomatch hb) fun h₇ tk₇ F₇ B₇ K₇ => ?_
    have K₇' : Up h₆ h₇ := fun b o e => K₇ b o (fun q => nomatch q) e
    refine wpAny_execs_cons (wpAny_Return_some (wpAny_Name (wpAny_loadName_cell rfl rfl (c := L + 2) rfl (let ⟨o, e1, e2⟩ := hc26; ⟨o, K₇' _ _ e1, e2⟩) ?_)))
    refine fin' h₇ tk₇ (K₇'.keep _) (hi₆.at fun o e => K₇' _ _ e)
  · refine wpAny_execs_cons (wpAny_If (use_et (b := true) ((show (a != 0) = true by simpa using ha0) ▸ et_nat (n := a) (evn (d := encI a))) F₆ B₆ fun h₇ tk₇ u₇ => ?_))
    have S₇ : ISt fi q' cdv cl arr _ h₇ := S₆.move (u₇.keep _).cut (fun _ q => q) fun _ c _ o e => u₇ c o e
    have hi₇ : IntsAt h₇ arr (List.replicate (nb2 a) 0) := hi₆.at fun o e => u₇ _ _ e
    have F₇ := F₆.up u₇
    have B₇ := B₆.up u₇
    have hc37 : h₇.IsCell (L + 3) (some (.ref fi)) := let ⟨o, e1, e2⟩ := hc₆; ⟨o, u₇ _ _ e1, e2⟩
    have hc27 : h₇.IsCell (L + 2) (some (.ref arr)) := let ⟨o, e1, e2⟩ := hc26; ⟨o, u₇ _ _ e1, e2⟩
    have harrn : arr ∉ mdL ++ bad := fun q => by
      obtain ⟨o, e⟩ := F₃.stands _ q
      rw [fr] at e; cases e
    have G₇ : FS _ (mdL ++ bad) (("a_digits", encL (List.replicate (nb2 a) 0)) :: _) h₇ := F₇.revealC F₃.lbad (fun y c e => (F₃.cbad y c e).1) rfl rfl hc27 (let ⟨ws, n, e, r⟩ := hi₇; .list (hideAll_get _ e harrn) (rps_flat r))
    have B₇' : Bs W (mdL ++ bad) h₇ := B₇.move (cut_less fun b hb => List.mem_append.mpr (.inr hb))
    have hlr : (List.replicate (nb2 a) 0).length = nb2 a := List.length_replicate ..
    refine wpAny_execs_cons (wpAny_Expr_any (wp_callcell rfl (.inr rfl) (S₇.1.fn.fnAt (cut_up _ _)) (c := L + 3) rfl hc37 (sp_cons (evn (d := encI a)) (sp_cons (d := encI 0) ev_int (sp_cons (el (xs := List.replicate (nb2 a) 0) (enc := encI) (gl_b O hlen rfl) evn (by omega)) sp_nil))) G₇ B₇' fun vs₁ h₈ tk₈ u₈ r₈ => ?_))
    have S₈ : ISt fi q' cdv cl arr _ h₈ := S₇.move (u₈.keep _).cut (fun _ q => q) fun _ c _ o e => u₈ c o e
    refine i2d_inner O.lim (nb2 a) 0 (nb2 a) a (List.replicate (nb2 a) 0) (nb2_pos ha0) (by omega) (by omega) (lt_nb2 a) (by omega) A' ([arr] ++ (mdL ++ bad)) _ vs₁ _ _ (rm'.less (by omega)) (F₇.up u₈).stands (B₇.up u₈) S₈ hab (hi₇.at fun o e => u₈ _ _ e)
      (by rw [hlr] at r₈; exact rps_flat (bs := [a, 0, nb2 a]) r₈) fun v₉ h₉ tk₉ K₉ hi₉ => ?_
    refine wpAny_execs_nil ?_
    have k69 : Keep [arr] h₆ h₉ := ((u₇.trans u₈).keep _).trans K₉
    have hc29 : h₉.IsCell (L + 2) (some (.ref arr)) := let ⟨o, e1, e2⟩ := hc26; ⟨o, k69 _ _ (fun q => ha2 (List.mem_singleton.mp q).symm) e1, e2⟩
    refine wpAny_execs_cons (wpAny_Return_some (wpAny_Name (wpAny_loadName_cell rfl rfl (c := L + 2) rfl hc29 ?_)))
    refine fin' h₉ tk₉ k69 ?_
    have e : (List.replicate (nb2 a) 0).take 0 ++ bits (nb2 a - 0) a ++ (List.replicate (nb2 a) 0).drop (nb2 a) = bits (nb2 a) a := by simp
    rw [e] at hi₉
    exact hi₉
end Mine

namespace Mine

/-- a plain dict, by its entries, whatever their keys are -/
abbrev DObj (h : Heap) (d : Addr) (es : Array DictEntry) (n : Nat) : Prop := h.get? d = some { cls := .type "dict", data := .dict es n }

section
variable {prog : Program} {w : World} {A : Around} {E : Value → Shared → Prop} {s : Shared} {d it : Addr} {es : Array DictEntry} {n i : Nat}

theorem call_items {Q : Value → Shared → Prop} (hm : DObj s.heap d es n) (hd : (d == sysModules) = false) (h : Q (.ref s.heap.objs.size) { s with heap := s.heap.push { cls := .type "dict_items", data := .fields #[.ref d] } }) :
    wpAny (model prog w) A (call (.builtin "dict.items") [.ref d]) Q E s := by
  have hT : s.TypeIs (.ref d) "dict" := ⟨_, hm, rfl⟩
  refine wpAny_call_entry F.slot_dict_items hT F.entry_dict_items ?_ (F.args_dict_items_1 _)
  unfold Builtin.«dict.items» Builtin.Dict.noArgs
  refine wpAny_bind (wpAny_bind (wpAny_notOrdered_dict hT ?_))
  show wpAny _ _ (pure d) _ _ s
  refine wpAny_pure ?_
  show wpAny _ _ (Builtin.Dict.showsAll d >>= _) _ _ s
  unfold Builtin.Dict.showsAll
  rw [if_neg (by rw [hd]; exact Bool.false_ne_true)]
  exact wpAny_bind (wpAny_pure (wpAny_bind (wpAny_newObj_type (wpAny_pure ⟨_, rfl, h⟩))))
theorem call_values {Q : Value → Shared → Prop} (hm : DObj s.heap d es n) (hd : (d == sysModules) = false) (h : Q (.ref s.heap.objs.size) { s with heap := s.heap.push { cls := .type "dict_values", data := .fields #[.ref d] } }) :
    wpAny (model prog w) A (call (.builtin "dict.values") [.ref d]) Q E s := by
  have hT : s.TypeIs (.ref d) "dict" := ⟨_, hm, rfl⟩
  refine wpAny_call_entry F.slot_dict_values hT F.entry_dict_values ?_ (F.args_dict_values_1 _)
  refine wpAny_bind ?_
  unfold Builtin.Dict.noArgs
  refine wpAny_bind (wpAny_notOrdered_dict hT ?_)
  show wpAny _ _ (pure d) _ _ s
  refine wpAny_pure ?_
  show wpAny _ _ (Builtin.Dict.showsAll d >>= _) _ _ s
  unfold Builtin.Dict.showsAll
  rw [if_neg (by rw [hd]; exact Bool.false_ne_true)]
  exact wpAny_bind (wpAny_pure (wpAny_bind (wpAny_newObj_type (wpAny_pure ⟨_, rfl, h⟩))))

theorem iter_items {v : Addr} {Q : Value → Shared → Prop} (hv : s.heap.IsItemsView v d) (hm : DObj s.heap d es n)
    (hQ : Q (.ref s.heap.objs.size) { s with heap := s.heap.push { cls := .type "dict_itemiterator", data := .fields #[.none, .bool false, .ref d, .int 0 0, .int es.size 0, .int n 0, .none, .none] } }) :
    wpAny (model prog w) A (pyIter (.ref v)) Q E s := by
  obtain ⟨ov, hov, hcv, hdv⟩ := id hv
  refine wpAny_pyIter_slot hv.typeIs F.slot_dict_items_iter (wpAny_call_entry F.slot_dict_items_iter hv.typeIs F.entry_dict_items_iter ?_ (F.args_dict_items_iter_1 _))
  unfold Builtin.«dict_items.__iter__»
  refine wpAny_bind (wpAny_pure (wpAny_bind ?_))
  unfold Builtin.Dict_items.dictOf
  refine wpAny_bind (wpAny_field hov hdv (x := .ref d) rfl (wpAny_pure (wpAny_bind ?_)))
  unfold Builtin.Dict_items.newIterator
  refine wpAny_bind (wpAny_dictEntries hm rfl (wpAny_bind (wpAny_dictEpoch hm rfl ?_)))
  have hown : Builtin.Dict_items.ownsTuple "dict_itemiterator" = true := by decide
  simp only [hown, if_true]
  refine wpAny_newObj_type (wpAny_pure ⟨_, rfl, "dict_itemiterator", _, ⟨_, Heap.get?_push_size _ rfl, rfl⟩, F.slot_dict_itemiterator_next.lookup, ?_⟩)
    (by simp only [sizeOk, Builtin.Dict_items.ownedTupleFields, List.size_toArray, List.length_append, List.length_cons, List.length_nil, sizeLine_eq]; omega)
  simpa [rawInt, Builtin.Dict_items.ownedTupleFields] using hQ
theorem iter_values {v : Addr} {Q : Value → Shared → Prop} (hv : s.heap.IsValuesView v d) (hm : DObj s.heap d es n)
    (hQ : Q (.ref s.heap.objs.size) { s with heap := s.heap.push { cls := .type "dict_valueiterator", data := .fields #[.ref d, .int 0 0, .int es.size 0, .int n 0] } }) :
    wpAny (model prog w) A (pyIter (.ref v)) Q E s := by
  obtain ⟨ov, hov, hcv, hdv⟩ := id hv
  refine wpAny_pyIter_slot hv.typeIs F.slot_dict_values_iter (wpAny_call_entry F.slot_dict_values_iter hv.typeIs F.entry_dict_values_iter ?_ (F.args_dict_values_iter_1 _))
  unfold Builtin.«dict_values.__iter__»
  refine wpAny_bind (wpAny_pure (wpAny_bind ?_))
  unfold Builtin.Dict_items.dictOf
  refine wpAny_bind (wpAny_field hov hdv (x := .ref d) rfl (wpAny_pure (wpAny_bind ?_)))
  unfold Builtin.Dict_items.newIterator
  refine wpAny_bind (wpAny_dictEntries hm rfl (wpAny_bind (wpAny_dictEpoch hm rfl ?_)))
  have hown : Builtin.Dict_items.ownsTuple "dict_valueiterator" = false := by decide
  simp only [hown, Bool.false_eq_true, if_false]
  refine wpAny_newObj_type (wpAny_pure ⟨_, rfl, "dict_valueiterator", _, ⟨_, Heap.get?_push_size _ rfl, rfl⟩, F.slot_dict_valueiterator_next.lookup, ?_⟩)
  simpa [rawInt] using hQ


/-- `StopIteration` raised within `__next__`, seen by the one who asks -/
theorem stop_here {M : Model} {s : Shared} {R : Value → Shared → Prop} {α : Type} {X : α → Shared → Prop} (hh : A.handled = none) (h : ∀ h' e, Heap.ExtBut h'.objs.size s.heap h' → (∀ b o, s.heap.get? b = some o → h'.get? b = some o) → Shared.TypeIs { s with heap := h' } (.ref e) "StopIteration" → R (.ref e) { s with heap := h' }) :
    wpAny M A (newExc (.type "StopIteration") [] >>= fun e => (raiseNew e : Sem α)) X R s := by
  refine wpAny_bind ?_
  simp only [newExc, newTuple]
  refine wpAny_bind (wpAny_newObj_type ?_ (by size_fits))
  refine wpAny_bind (m := firstArgMember _ _) (wpAny_of_eq (a := Value.none) (by first | rfl | (simp only [firstArgMember]; rfl)) ?_)
  refine wpAny_newObj_type ?_ (by size_fits)
  simp only [raiseNew]
  refine wpAny_bind (wpAny_handled ?_)
  rw [hh]
  refine wpAny_bind (wpAny_pure (wpAny_throw (h _ _ (fun b o _ e => ?_) (fun b o e => ?_) ⟨_, Heap.get?_push_size _ rfl, rfl⟩)))
  · exact Heap.get?_push_of_some _ (Heap.get?_push_of_some _ e)
  · exact Heap.get?_push_of_some _ (Heap.get?_push_of_some _ e)

theorem next_vals {Q : Option Value → Shared → Prop} (hh : A.handled = none) (hit : s.heap.IsValIter it d i es.size n) (hm : DObj s.heap d es n)
    (hI : ∀ e, es[i]? = some e → ∀ h', h'.IsValIter it d (i + 1) es.size n → Heap.SameBut it s.heap h' → Q (some e.val) { s with heap := h' })
    (hE : es[i]? = none → ∀ h', Heap.ExtBut it s.heap h' → Q none { s with heap := h' }) : wpAny (model prog w) A (pyNext (.ref it)) Q E s := by
  obtain ⟨o, ho, hc, hd⟩ := id hit
  unfold pyNext
  refine wpAny_bind (wpAny_attempt (wpAny_callSpecial?_slot (name := Str.ofString "__next__") hit.typeIs F.slot_dict_valueiterator_next
    (wpAny_call_entry F.slot_dict_valueiterator_next hit.typeIs F.entry_dict_valueiterator_next ?_ (F.args_dict_valueiterator_next_1 _))))
  refine wpAny_bind (wpAny_pure (wpAny_bind (wpAny_bind ?_)))
  first | refine wpAny_bind (wpAny_typeNameOfWhole_valiter hit.typeIs (wpAny_pure ?_)) | refine wpAny_bind (wpAny_typeNameOf_valiter hit.typeIs (wpAny_pure ?_))
  refine wpAny_bind (wpAny_fieldsOf ho hd ?_)
  have hown : Builtin.Dict_items.ownsTuple "dict_valueiterator" = false := by decide
  simp only [hown, Bool.false_eq_true, if_false]
  show wpAny _ _ (if (Value.ref d == Value.none) = true then _ else _) _ _ s
  rw [if_neg (show ¬ ((Value.ref d == Value.none) = true) from Bool.false_ne_true)]
  refine wpAny_bind (wpAny_pure (wpAny_bind (wpAny_dictEntries hm rfl ?_)))
  rw [if_neg (by simp)]
  refine wpAny_bind (wpAny_pure (wpAny_bind (wpAny_dictEpoch hm rfl ?_)))
  rw [if_neg (by simp)]
  refine wpAny_pure ?_
  cases hx : es[i]? with
  | some e =>
    simp only [show ¬ ((i : Int) < 0) from by omega, if_false, Int.toNat_natCast, hx]
    refine wpAny_bind ?_
    first | refine wpAny_bind (wpAny_typeNameOfWhole_valiter hit.typeIs (wpAny_pure ?_)) | refine wpAny_bind (wpAny_typeNameOf_valiter hit.typeIs (wpAny_pure ?_))
    refine wpAny_bind (wpAny_isOneOf_valiter hit.typeIs ?_)
    show wpAny _ _ (setField (.ref it) 1 (rawInt ((i : Int) + 1)) >>= _) _ _ s
    refine wpAny_bind (wpAny_setField ho hd (by simp) ?_)
    have hit' : (s.heap.update it (Obj.mapFields (·.setIfInBounds 1 (rawInt ((i : Int) + 1))))).IsValIter it d (i + 1) es.size n :=
      ⟨_, Heap.get?_update_self _ ho (Obj.isFreed_of_fields (Obj.data_mapFields hd _)), (Obj.cls_mapFields ..).trans hc, by rw [Obj.data_mapFields hd]; simp [rawInt]⟩
    refine wpAny_bind (wpAny_holding ?_)
    refine wpAny_bind (wpAny_isOneOf_valiter (s := { s with heap := s.heap.update it (Obj.mapFields (·.setIfInBounds 1 (rawInt ((i : Int) + 1)))) }) hit'.typeIs ?_)
    refine wpAny_bind (wpAny_isOneOf_valiter (s := { s with heap := s.heap.update it (Obj.mapFields (·.setIfInBounds 1 (rawInt ((i : Int) + 1)))) }) hit'.typeIs ?_)
    show wpAny _ _ (pure e.val) _ _ _
    exact wpAny_pure (wpAny_pure ⟨_, rfl, wpAny_pure (hI e hx _ hit' (Heap.SameBut.update ..))⟩)
  | none =>
    simp only [show ¬ ((i : Int) < 0) from by omega, if_false, Int.toNat_natCast, hx]
    refine wpAny_bind ?_
    first | refine wpAny_bind (wpAny_typeNameOfWhole_valiter hit.typeIs (wpAny_pure ?_)) | refine wpAny_bind (wpAny_typeNameOf_valiter hit.typeIs (wpAny_pure ?_))
    show wpAny _ _ (setField (.ref it) 0 .none >>= _) _ _ s
    refine wpAny_bind (wpAny_setField ho hd (by simp) ?_)
    refine stop_here hh fun h' e _ u ht => ?_
    refine wpAny_bind (wpAny_isInstance (T := "StopIteration") (b := true) ht isSubtype_stop ?_)
    exact wpAny_pure (hE hx _ fun b o hb eo => u b o ((Heap.SameBut.update ..).extBut b o hb eo))

theorem next_items {ok ov : Value} {Q : Option Value → Shared → Prop} (hh : A.handled = none) (hit : IsItemIter s.heap it d i es.size n ok ov) (hm : DObj s.heap d es n)
    (hI : ∀ e, es[i]? = some e → ∀ h', IsItemIterOut h' it d (i + 1) es.size n e.key e.val s.heap.objs.size → h'.get? s.heap.objs.size = some { cls := .type "tuple", data := .seq #[e.key, e.val] } →
      (∀ b o, b ≠ it → s.heap.get? b = some o → h'.get? b = some o) → Q (some (.ref s.heap.objs.size)) { s with heap := h' })
    (hE : es[i]? = none → ∀ h', Heap.ExtBut it s.heap h' → Q none { s with heap := h' }) : wpAny (model prog w) A (pyNext (.ref it)) Q E s := by
  obtain ⟨hp, g, dr, tk, os⟩ := s
  have hT : Shared.TypeIs ⟨hp, g, dr, tk, os⟩ (.ref it) "dict_itemiterator" := ⟨_, hit, rfl⟩
  unfold pyNext
  refine wpAny_bind (wpAny_attempt (wpAny_callSpecial?_slot (name := Str.ofString "__next__") hT F.slot_dict_itemiterator_next
    (wpAny_call_entry F.slot_dict_itemiterator_next hT F.entry_dict_itemiterator_next ?_ (F.args_dict_itemiterator_next_1 _))))
  refine wpAny_bind (wpAny_pure (wpAny_bind (wpAny_bind ?_)))
  first | refine wpAny_bind (wpAny_typeNameOfWhole_itemiter hT (wpAny_pure ?_)) | refine wpAny_bind (wpAny_typeNameOf_itemiter hT (wpAny_pure ?_))
  refine wpAny_bind (wpAny_fieldsOf hit rfl ?_)
  have hown : Builtin.Dict_items.ownsTuple "dict_itemiterator" = true := by decide
  simp only [hown, if_true]
  show wpAny _ _ (if (Value.ref d == Value.none) = true then _ else _) _ _ _
  rw [if_neg (show ¬ ((Value.ref d == Value.none) = true) from Bool.false_ne_true)]
  refine wpAny_bind (wpAny_pure (wpAny_bind (wpAny_dictEntries hm rfl ?_)))
  rw [if_neg (by simp)]
  refine wpAny_bind (wpAny_pure (wpAny_bind (wpAny_dictEpoch hm rfl ?_)))
  rw [if_neg (by simp)]
  refine wpAny_pure ?_
  cases hx : es[i]? with
  | none =>
    simp only [show ¬ ((i : Int) < 0) from by omega, if_false, Int.toNat_natCast, hx]
    refine wpAny_bind ?_
    first | refine wpAny_bind (wpAny_typeNameOfWhole_itemiter hT (wpAny_pure ?_)) | refine wpAny_bind (wpAny_typeNameOf_itemiter hT (wpAny_pure ?_))
    show wpAny _ _ (setField (.ref it) 2 .none >>= _) _ _ _
    refine wpAny_bind (wpAny_setField hit rfl (by simp) ?_)
    refine stop_here hh fun h' e _ u ht => ?_
    refine wpAny_bind (wpAny_isInstance (T := "StopIteration") (b := true) ht isSubtype_stop ?_)
    exact wpAny_pure (hE hx _ fun b o hb eo => u b o ((Heap.SameBut.update ..).extBut b o hb eo))
  | some e =>
    simp only [show ¬ ((i : Int) < 0) from by omega, if_false, Int.toNat_natCast, hx]
    refine wpAny_bind ?_
    first | refine wpAny_bind (wpAny_typeNameOfWhole_itemiter hT (wpAny_pure ?_)) | refine wpAny_bind (wpAny_typeNameOf_itemiter hT (wpAny_pure ?_))
    refine wpAny_bind (wpAny_isOneOf_itemiter hT ?_)
    show wpAny _ _ (setField (.ref it) 3 (rawInt ((i : Int) + 1)) >>= _) _ _ ⟨hp, g, dr, tk, os⟩
    refine wpAny_bind (wpAny_setField_rec hit (by simp) fun h₁ he₁ hs₁ => ?_)
    replace hs₁ : Heap.SameBut it hp h₁ := hs₁
    replace he₁ : IsItemIter h₁ it d (i + 1) es.size n ok ov := by
      have q : ((i + 1 : Nat) : Int) = (i : Int) + 1 := by omega
      unfold IsItemIter; rw [q]; simpa [rawInt] using he₁
    have hT₁ : Shared.TypeIs ⟨h₁, g, dr, tk, os⟩ (.ref it) "dict_itemiterator" := ⟨_, he₁, rfl⟩
    refine wpAny_bind (wpAny_holding (wpAny_bind (wpAny_isOneOf_itemiter hT₁ (wpAny_bind (wpAny_isOneOf_itemiter hT₁ ?_)))))
    show wpAny _ _ (Builtin.Dict_items.pairFromOwner (.ref it) 6 e.key e.val) _ _ ⟨h₁, g, dr, tk, os⟩
    unfold Builtin.Dict_items.pairFromOwner
    refine wpAny_bind (wpAny_newTuple ?_)
    have hz₁ : h₁.objs.size = hp.objs.size := hs₁.1
    have hil : it < hp.objs.size := Heap.lt_size hit
    have ht₂ : (h₁.push { cls := .type "tuple", data := .seq #[e.key, e.val] }).get? hp.objs.size = some { cls := .type "tuple", data := .seq #[e.key, e.val] } := by rw [← hz₁]; exact Heap.get?_push_size _ rfl
    have he₂ : IsItemIter (h₁.push { cls := .type "tuple", data := .seq #[e.key, e.val] }) it d (i + 1) es.size n ok ov := Heap.get?_push_of_some _ he₁
    have hk₂ : ∀ b o, b ≠ it → hp.get? b = some o → (h₁.push { cls := .type "tuple", data := .seq #[e.key, e.val] }).get? b = some o := fun b o hb q => Heap.get?_push_of_some _ (hs₁.extBut b o hb q)
    rw [hz₁]
    clear hs₁ hT₁ hz₁ he₁
    generalize h₁.push { cls := .type "tuple", data := .seq #[e.key, e.val] } = h₂ at *
    show wpAny _ _ (Builtin.Dict_items.ownedTupleIsFree (.ref it) >>= _) _ _ ⟨h₂, g, dr, tk, os⟩
    refine wpAny_bind ?_
    unfold Builtin.Dict_items.ownedTupleIsFree
    refine wpAny_bind (wpAny_field he₂ rfl (x := .none) rfl (wpAny_pure ?_))
    simp only [if_true]
    refine wpAny_bind (wpAny_field he₂ rfl (x := ok) rfl (wpAny_bind (wpAny_field he₂ rfl (x := ov) rfl ?_)))
    refine wpAny_bind (wpAny_setField_rec he₂ (by simp) fun h₃ he₃ hs₃ => ?_)
    replace hs₃ : Heap.SameBut it h₂ h₃ := hs₃
    replace he₃ : IsItemIter h₃ it d (i + 1) es.size n e.key ov := he₃
    refine wpAny_bind (wpAny_setField_rec he₃ (by simp) fun h₄ he₄ hs₄ => ?_)
    replace hs₄ : Heap.SameBut it h₃ h₄ := hs₄
    replace he₄ : IsItemIter h₄ it d (i + 1) es.size n e.key e.val := he₄
    refine wpAny_bind (wpAny_setField_rec he₄ (by simp) fun h₅ he₅ hs₅ => ?_)
    replace hs₅ : Heap.SameBut it h₄ h₅ := hs₅
    replace he₅ : IsItemIterOut h₅ it d (i + 1) es.size n e.key e.val hp.objs.size := he₅
    refine wpAny_bind (wpAny_setField_rec he₅ (by simp) fun h₆ he₆ hs₆ => ?_)
    replace hs₆ : Heap.SameBut it h₅ h₆ := hs₆
    replace he₆ : IsItemIterOut h₆ it d (i + 1) es.size n e.key e.val hp.objs.size := he₆
    have k26 : ∀ b o, b ≠ it → h₂.get? b = some o → h₆.get? b = some o := fun b o hb q => hs₆.extBut b o hb (hs₅.extBut b o hb (hs₄.extBut b o hb (hs₃.extBut b o hb q)))
    exact wpAny_bind (wpAny_letGo (wpAny_pure (wpAny_pure ⟨_, rfl, wpAny_pure (hI e hx h₆ he₆ (k26 _ _ (Nat.ne_of_gt hil) ht₂) fun b o hb q => k26 b o hb (hk₂ b o hb q))⟩)))
end
end Mine

namespace Mine
section
variable {W : Wd} {A : Around} {env : Env} {md : List Addr} {G : Cx}

theorem rp_dict {h : Heap} {bad : List Addr} {v : Value} {kvs : List (PyData × PyData)} (r : Rp (cut h bad) v (.dict kvs)) (hk : ∀ p ∈ kvs, p.1 ≠ .none) :
    ∃ a es n, v = .ref a ∧ sysModules < a ∧ DObj (cut h bad) a es n ∧ DObj h a es n ∧ a ∉ bad ∧ Rps (cut h bad) (es.toList.map (·.key)) (kvs.map (·.1)) ∧ Rps (cut h bad) (es.toList.map (·.val)) (kvs.map (·.2)) := by
  cases r with
  | dict l _ e r q => exact ⟨_, _, _, rfl, l, e, (cut_get e).1, (cut_get e).2, r, q⟩
  | raw a => exact absurd rfl (hk _ List.mem_cons_self)

theorem hbne {a : Addr} (h : sysModules < a) : (a == sysModules) = false := beq_eq_false_iff_ne.mpr (Nat.ne_of_gt h)

theorem evi_vals {target o : Expr} {apos pos : Pos} {pl : Sem Bool} {kvs : List (PyData × PyData)} (hA : A.handled = none) (h : Ev W A env G o (.dict kvs)) (hkn : ∀ p ∈ kvs, p.1 ≠ .none)
    (he : eval (.Call (.Attribute o "values" apos) [] [] pos) env = (do
      let ov ← eval o env
      standAt apos.atName
      let (f, first) ← holding [ov] (getMethod ov "values" pl)
      callWith pos f first (backTo pos (starEach [] env)) []) := by rfl) : EvI W A env G target (.Call (.Attribute o "values" apos) [] [] pos) (kvs.map (·.2)) := by
  intro bad s Q E F B hQ
  refine MethodCall_ (pl := pl) (h bad s F B _ _ fun v h₀ tk u r => ?_) he
  obtain ⟨d, es, n, rfl, hlt, ec, ed, _, _, rv⟩ := rp_dict r hkn
  refine getMethod_builtin (T := "dict") ⟨_, ed, rfl⟩ PySem.F.plainAttrs_dict PySem.F.slot_dict_values PySem.F.type_dict_values (fun a q => by cases q; exact ⟨_, ed, rfl⟩) (callWith_method0 (call_values (s := { s with heap := h₀, toks := tk }) ed (hbne hlt) ?_))
  dsimp only
  generalize hH1 : h₀.push { cls := .type "dict_values", data := .fields #[.ref d] } = H1
  have u1 : Up h₀ H1 := by rw [← hH1]; exact Up.push _ _
  have hv : H1.IsValuesView h₀.objs.size d := by rw [← hH1]; exact ⟨_, Heap.get?_push_size _ rfl, rfl, rfl⟩
  refine iter_values (s := { s with heap := H1, toks := tk }) hv (u1 _ _ ed) ?_
  dsimp only
  have hne : H1.objs.size ≠ d := Nat.ne_of_gt (Heap.lt_size (u1 _ _ ed))
  have fresh : ∀ b, H1.objs.size ≤ b → s.heap.get? b = none := fun b hb => by
    cases e : s.heap.get? b with
    | none => rfl
    | some o => exact absurd (Heap.lt_size (u1 _ _ (u b o e))) (Nat.not_lt.mpr hb)
  refine hQ H1.objs.size [H1.objs.size] (fun i h => h.IsValIter H1.objs.size d i es.size n ∧ Up (cut h₀ bad) h) _ tk ((u.trans u1).trans (Up.push _ _)) (fun b hb => by rw [List.mem_singleton.mp hb]; exact fresh _ (Nat.le_refl _))
    ⟨⟨_, Heap.get?_push_size _ rfl, rfl, rfl⟩, (cut_up _ _).trans (u1.trans (Up.push _ _))⟩ (fun b hb => by rw [List.mem_singleton.mp hb]; exact ⟨_, Heap.get?_push_size _ rfl⟩) fun bad' h1 h2 h3 => ?_
  have hnb : ∀ {b o}, (cut h₀ bad).get? b = some o → b ∉ bad' := fun e => nb h3 (fun b hb => by
    rw [List.mem_singleton.mp hb]
    cases e : h₀.get? H1.objs.size with
    | none => rfl
    | some o => exact absurd (Heap.lt_size (u1 _ _ e)) (Nat.lt_irrefl _)) (fun b o e => Nat.lt_of_lt_of_le (Heap.lt_size (u1 _ _ e)) (by show _ ≤ (H1.push _).objs.size; rw [Heap.size_push]; exact Nat.le_succ _)) e
  refine ⟨fun i h h' ⟨st1, st2⟩ k1 k2 => ⟨st1.at fun o e => k1 _ o List.mem_cons_self e, fun b o e => k2 b o (hnb e) (st2 b o e)⟩, fun i h st b hb => ?_, fun i d' s' Q' E' hd st sb hQ' => ?_, fun s' Q' E' st hQ' => ?_, fun i s' Q' E' st q => wpAny_pyIter_valiter st.1 q⟩
  · rw [List.mem_singleton.mp hb]; obtain ⟨o, e, _⟩ := st.1; exact ⟨o, e⟩
  · obtain ⟨v, hv, rv'⟩ := rv.get hd
    have hve : ∃ e, es[i]? = some e ∧ e.val = v := by
      rw [List.getElem?_map, Array.getElem?_toList] at hv
      cases q : es[i]? with
      | none => rw [q] at hv; cases hv
      | some e => rw [q] at hv; exact ⟨e, rfl, Option.some.inj hv⟩
    obtain ⟨e, he1, he2⟩ := hve
    refine next_vals hA st.1 (st.2 _ _ ec) (fun e' q h' hit' hs' => ?_) fun q => by rw [he1] at q; cases q
    rw [he1] at q; cases q
    refine ⟨v, by rw [he2], ?_⟩
    obtain ⟨o', eo', hc', _⟩ := id hit'
    refine letOwned_plain (s := { s' with heap := h' }) eo' hc' (by decide) ?_
    have up' : Up (cut h₀ bad) h' := fun b o e => (hs'.2 b fun q => hnb e (h1 b (by rw [q]; exact List.mem_cons_self))).trans (st.2 b o e)
    exact hQ' v h' s'.toks (Keep.of_same List.mem_cons_self hs') ⟨hit', up'⟩ (rv'.up fun b o e => hideAll_get _ (up' b o e) (hnb e))
  · have hlen := rv.length
    rw [List.length_map, List.length_map, Array.length_toList] at hlen
    refine next_vals hA st.1 (st.2 _ _ ec) (fun e q => ?_) fun _ h' he => hQ' h' s'.toks (Keep.of_ext List.mem_cons_self he)
    rw [List.length_map, ← hlen] at q
    simp at q

theorem evi_items {elts : List Expr} {k : Nat} {tp : Pos} {o : Expr} {apos pos : Pos} {pl : Sem Bool} {kvs : List (PyData × PyData)} (hA : A.handled = none) (h : Ev W A env G o (.dict kvs)) (hkn : ∀ p ∈ kvs, p.1 ≠ .none)
    (he : eval (.Call (.Attribute o "items" apos) [] [] pos) env = (do
      let ov ← eval o env
      standAt apos.atName
      let (f, first) ← holding [ov] (getMethod ov "items" pl)
      callWith pos f first (backTo pos (starEach [] env)) []) := by rfl) : EvI W A env G (.Tuple elts k tp) (.Call (.Attribute o "items" apos) [] [] pos) (kvs.map fun p => .tuple [p.1, p.2]) := by
  intro bad s Q E F B hQ
  refine MethodCall_ (pl := pl) (h bad s F B _ _ fun v h₀ tk u r => ?_) he
  obtain ⟨d, es, n, rfl, hlt, ec, ed, _, rk, rv⟩ := rp_dict r hkn
  refine getMethod_builtin (T := "dict") ⟨_, ed, rfl⟩ PySem.F.plainAttrs_dict PySem.F.slot_dict_items PySem.F.type_dict_items (fun a q => by cases q; exact ⟨_, ed, rfl⟩) (callWith_method0 (call_items (s := { s with heap := h₀, toks := tk }) ed (hbne hlt) ?_))
  dsimp only
  generalize hH1 : h₀.push { cls := .type "dict_items", data := .fields #[.ref d] } = H1
  have u1 : Up h₀ H1 := by rw [← hH1]; exact Up.push _ _
  have hv : H1.IsItemsView h₀.objs.size d := by rw [← hH1]; exact ⟨_, Heap.get?_push_size _ rfl, rfl, rfl⟩
  refine iter_items (s := { s with heap := H1, toks := tk }) hv (u1 _ _ ed) ?_
  dsimp only
  have fresh : ∀ b, H1.objs.size ≤ b → s.heap.get? b = none := fun b hb => by
    cases e : s.heap.get? b with
    | none => rfl
    | some o => exact absurd (Heap.lt_size (u1 _ _ (u b o e))) (Nat.not_lt.mpr hb)
  refine hQ H1.objs.size [H1.objs.size] (fun i h => (∃ ok ov, IsItemIter h H1.objs.size d i es.size n ok ov) ∧ Up (cut h₀ bad) h) _ tk ((u.trans u1).trans (Up.push _ _)) (fun b hb => by rw [List.mem_singleton.mp hb]; exact fresh _ (Nat.le_refl _))
    ⟨⟨_, _, Heap.get?_push_size _ rfl⟩, (cut_up _ _).trans (u1.trans (Up.push _ _))⟩ (fun b hb => by rw [List.mem_singleton.mp hb]; exact ⟨_, Heap.get?_push_size _ rfl⟩) fun bad' h1 h2 h3 => ?_
  have hnb : ∀ {b o}, (cut h₀ bad).get? b = some o → b ∉ bad' := fun e => nb h3 (fun b hb => by
    rw [List.mem_singleton.mp hb]
    cases e : h₀.get? H1.objs.size with
    | none => rfl
    | some o => exact absurd (Heap.lt_size (u1 _ _ e)) (Nat.lt_irrefl _)) (fun b o e => Nat.lt_of_lt_of_le (Heap.lt_size (u1 _ _ e)) (by show _ ≤ (H1.push _).objs.size; rw [Heap.size_push]; exact Nat.le_succ _)) e
  have m1 : H1.objs.size ∈ [H1.objs.size] := List.mem_cons_self
  refine ⟨fun i h h' ⟨⟨ok, ov, st1⟩, st2⟩ k1 k2 => ⟨⟨ok, ov, k1 _ _ m1 st1⟩, fun b o e => k2 b o (hnb e) (st2 b o e)⟩, fun i h st b hb => ?_, fun i d' s' Q' E' hd st sb hQ' => ?_, fun s' Q' E' st hQ' => ?_, fun i s' Q' E' ⟨⟨_, _, st⟩, _⟩ q => ?_⟩
  · rw [List.mem_singleton.mp hb]; obtain ⟨⟨_, _, e⟩, _⟩ := st; exact ⟨_, e⟩
  · obtain ⟨⟨ok, ov, st1⟩, st2⟩ := st
    have hi : i < kvs.length := by
      have := (List.getElem?_eq_some_iff.mp hd).1
      simpa using this
    have hk : kvs[i]? = some kvs[i] := List.getElem?_eq_getElem hi
    have hd' : d' = .tuple [kvs[i].1, kvs[i].2] := by
      rw [List.getElem?_map, hk] at hd
      exact (Option.some.inj hd).symm
    subst hd'
    obtain ⟨kv, hkv, rk'⟩ := rk.get (k := i) (d := kvs[i].1) (by rw [List.getElem?_map, hk]; rfl)
    obtain ⟨v, hv, rv'⟩ := rv.get (k := i) (d := kvs[i].2) (by rw [List.getElem?_map, hk]; rfl)
    rw [List.getElem?_map, Array.getElem?_toList] at hv hkv
    cases q : es[i]? with
    | none => rw [q] at hv; cases hv
    | some e =>
    rw [q] at hv hkv
    have e1 : e.val = v := Option.some.inj hv
    have e2 : e.key = kv := Option.some.inj hkv
    refine next_items hA st1 (st2 _ _ ec) (fun e' q' h' hit' ht' kp => ?_) fun q' => by rw [q] at q'; cases q'
    rw [q] at q'; cases q'
    refine ⟨_, rfl, ?_⟩
    refine wpAny_letOwnedTupleGo_items (s := { s' with heap := h' }) hit' fun h'' en'' hs'' => ?_
    have hne : s'.heap.objs.size ≠ H1.objs.size := Nat.ne_of_gt (Heap.lt_size st1)
    have kp' : Keep [H1.objs.size] s'.heap h'' := fun b o hb e => (hs''.2 b fun q => hb (by rw [q]; exact m1)).trans (kp b o (fun q => hb (by rw [q]; exact m1)) e)
    have up' : Up (cut h₀ bad) h'' := fun b o e => kp' b o (fun q => hnb e (h1 b q)) (st2 b o e)
    refine hQ' _ h'' s'.toks kp' ⟨⟨_, _, en''⟩, up'⟩ (.tuple (vs := [e.key, e.val]) (n := 0) (hideAll_get _ ((hs''.2 _ hne).trans ht') fun q => ?_) (.cons (e2 ▸ rk'.up fun b o e => hideAll_get _ (up' b o e) (hnb e)) (.one (e1 ▸ rv'.up fun b o e => hideAll_get _ (up' b o e) (hnb e)))))
    obtain ⟨o, e⟩ := sb _ q
    exact absurd (Heap.lt_size e) (Nat.lt_irrefl _)
  · obtain ⟨⟨ok, ov, st1⟩, st2⟩ := st
    have hlen := rv.length
    rw [List.length_map, List.length_map, Array.length_toList] at hlen
    refine next_items hA st1 (st2 _ _ ec) (fun e q => ?_) fun _ h' he => hQ' h' s'.toks (Keep.of_ext m1 he)
    rw [List.length_map, ← hlen] at q
    simp at q
  · exact kcp_self st q
end
end Mine

namespace Mine
open PySem.Challenge (pw_gf0002_01)

/-- keys that are strs or ints -/
def kS (prog : Program) (w : World) : KeyKind prog w (Sum Str Int) where
  is := fun k v => match k with | .inl x => (PySem.strKind prog w).is x v | .inr i => (intKind prog w).is i v
  hash := fun k => match k with | .inl x => (PySem.strKind prog w).hash x | .inr i => (intKind prog w).hash i
  inj := fun v a b ha hb => by
    cases a <;> cases b <;> dsimp only at ha hb
    · rw [(PySem.strKind prog w).inj _ _ _ ha hb]
    · obtain ⟨t, rfl⟩ := Value.isStrOf_shape ha; cases hb
    · obtain ⟨t, rfl⟩ := Value.isStrOf_shape hb; cases ha
    · rw [(intKind prog w).inj _ _ _ ha hb]
  byValue := fun k v h => by
    cases k
    · exact (PySem.strKind prog w).byValue _ _ h
    · exact (intKind prog w).byValue _ _ h
  pyHash := fun {A E s k v Q} h hq => by
    cases k
    · exact (PySem.strKind prog w).pyHash h hq
    · exact (intKind prog w).pyHash h hq
  eqBool := fun {A E s a b u v Q} ha hb hq => by
    cases a <;> cases b <;> dsimp only at ha hb
    · refine (PySem.strKind prog w).eqBool ha hb ?_
      rename_i x y
      have : decide ((Sum.inl x : Sum Str Int) = Sum.inl y) = decide (x = y) := by by_cases h : x = y <;> simp [h]
      rwa [this] at hq
    · obtain ⟨t, rfl⟩ := Value.isStrOf_shape ha
      obtain ⟨t', rfl⟩ := Value.isInt_shape hb
      exact SeqAt.EqAt.str_int _ _ _ _ prog w E Q (by simpa using hq)
    · obtain ⟨t, rfl⟩ := Value.isInt_shape ha
      obtain ⟨t', rfl⟩ := Value.isStrOf_shape hb
      exact SeqAt.EqAt.int_str _ _ _ _ prog w E Q (by simpa using hq)
    · refine (intKind prog w).eqBool ha hb ?_
      rename_i x y
      have : decide ((Sum.inr x : Sum Str Int) = Sum.inr y) = decide (x = y) := by by_cases h : x = y <;> simp [h]
      rwa [this] at hq
  «strs» := fun k x t v h => by
    cases k
    · exact (PySem.strKind prog w).«strs» _ _ _ _ h
    · cases h

def keyOf (o : Nat) : List (Sum Str Int) := [.inl "beat", .inr (o : Int), .inl "once"]
def key3 (o : Nat) : PyData := .tuple [.str "beat", encI o, .str "once"]
theorem keyOf_inj {a b : Nat} (h : keyOf a = keyOf b) : a = b := by
  unfold keyOf at h
  simp at h
  omega
theorem key_is {prog : Program} {w : World} {h : Heap} {v : Value} {o : Nat} (r : Rp h v (key3 o)) : ∃ a, v = .ref a ∧ (tupleKind (kS prog w)).is h (keyOf o) a := by
  cases r with
  | tuple e r =>
  rename_i a vs n
  refine ⟨a, rfl, _, _, _, e, rfl, rfl, ?_⟩
  cases r with | cons r1 r => cases r with | cons r2 r => cases r with | cons r3 r => cases r with | nil =>
  obtain ⟨t2, rfl⟩ := rp_int r2
  cases r1 with | str _ t1 => cases r3 with | str _ t3 =>
  exact .cons (by simp [kS, PySem.strKind, Value.isStrOf]) (.cons (by simp [kS, intKind, Value.isInt]) (.cons (by simp [kS, PySem.strKind, Value.isStrOf]) .nil))
/-- the dict's data: each of the names once -/
def dct (os : List Nat) : PyData := .dict (os.map fun o => (key3 o, encI 1))
theorem dct_none (os : List Nat) : ∀ p ∈ os.map (fun o => (key3 o, encI 1)), p.1 ≠ PyData.none := fun p hp => by
  obtain ⟨o, _, rfl⟩ := List.mem_map.mp hp
  intro q; cases q
/-- the dict that grows -/
def DG (W : Wd) (D : Addr) (os : List Nat) (bad : List Addr) (h : Heap) : Prop :=
  sysModules < D ∧ ∃ xs : List (List (Sum Str Int) × Addr × Value), h.DictOfH (tupleKind (kS W.prog W.w)) D xs ∧ xs.map (·.1) = os.map keyOf ∧ Rps (cut h bad) (xs.map fun x => .ref x.2.1) (os.map key3) ∧ Rps (cut h bad) (xs.map fun x => x.2.2) (os.map fun _ => encI 1)

theorem rps_isAll {prog : Program} {w : World} {h : Heap} : ∀ {xs : List (List (Sum Str Int) × Addr × Value)} {os : List Nat}, xs.map (·.1) = os.map keyOf → Rps h (xs.map fun x => .ref x.2.1) (os.map key3) → ∀ x ∈ xs, (tupleKind (kS prog w)).is h x.1 x.2.1
  | [], [], _, _ => fun _ h => nomatch h
  | [], _ :: _, h, _ => by simp at h
  | _ :: _, [], h, _ => by simp at h
  | x :: xs, o :: os, h, r => by
    simp only [List.map_cons, List.cons.injEq] at h r
    cases r with
    | cons r1 r =>
    intro y hy
    rcases List.mem_cons.mp hy with rfl | hy
    · obtain ⟨a, q, i⟩ := key_is (prog := prog) (w := w) r1
      cases q
      rw [h.1]; exact i
    · exact rps_isAll h.2 r y hy

theorem is_up {prog : Program} {w : World} {h h' : Heap} (u : Up h h') {k : List (Sum Str Int)} {a : Addr} (x : (tupleKind (kS prog w)).is h k a) : (tupleKind (kS prog w)).is h' k a := by
  obtain ⟨o, items, n, e, r⟩ := x
  exact ⟨o, items, n, u _ _ e, r⟩

theorem DG.mv {W : Wd} {D : Addr} {os : List Nat} : Mv (DG W D os) D := fun bad bad' h h' ⟨hl, xs, ⟨o, es, ep, e1, e2, e3, e4, e5, e6⟩, h2, h3, h4⟩ u hD =>
  ⟨hl, xs, ⟨o, es, ep, hD _ e1, e2, e3, e4, fun x hx => is_up (cut_up _ _) (rps_isAll h2 (h3.up u) x hx), e6⟩, h2, h3.up u, h4.up u⟩
/-- at rest, it bears its data -/
theorem DG.rp {W : Wd} {D : Addr} {os : List Nat} {bad : List Addr} {h : Heap} (x : DG W D os (D :: bad) h) (hn : D ∉ bad) : Rp (cut h bad) (.ref D) (dct os) := by
  obtain ⟨hl, xs, ⟨o, es, ep, e1, ⟨c1, c2, c3⟩, e3, e4, e5, e6⟩, h2, h3, h4⟩ := x
  obtain ⟨oc, od, odt, osl⟩ := o
  simp only at c1 c2 c3 e3
  subst c1 c2 c3 e3
  have ul : Up (cut h (D :: bad)) (cut h bad) := cut_less fun b hb => List.mem_cons_of_mem _ hb
  refine .dict hl (dct_none os) (hideAll_get _ e1 hn) ?_ ?_
  · rw [e4, List.map_map, List.map_map]
    exact h3.up ul
  · rw [e4, List.map_map, List.map_map]
    exact h4.up ul

section
variable {W : Wd} {A : Around} {env : Env} {md : List Addr} {G : Cx}
/-- one more entry -/
theorem DG.set {bad : List Addr} {s : Shared} {D : Addr} {os : List Nat} {o : Nat} {k v : Value} {Q : Unit → Shared → Prop} {E : Value → Shared → Prop} (x : DG W D os bad s.heap) (hD : D ∈ bad) (hu : A.units + 64 < cLine) (ho : o ∉ os) (hl : os.length ≤ 4000)
    (rk : Rp (cut s.heap bad) k (key3 o)) (rv : Rp (cut s.heap bad) v (encI 1)) (hQ : ∀ h' tk, Heap.SameBut D s.heap h' → DG W D (os ++ [o]) bad h' → Q () { s with heap := h', toks := tk }) :
    wpAny (model W.prog W.w) A (setItem (.ref D) k v) Q E s := by
  obtain ⟨hlt, xs, hd, h2, h3, h4⟩ := x
  obtain ⟨a, rfl, hk⟩ := key_is (prog := W.prog) (w := W.w) rk
  have hlen : xs.length = os.length := by simpa using congrArg List.length h2
  refine wpAny_setItem_heap (knd := tupleKind (kS W.prog W.w)) (show A.units + 1 < cLine by omega) (is_up (cut_up _ _) hk) hd (fun h' hd' hs => ?_) (by rw [hlen]; exact le_line hl)
  have hnew : atKey xs (keyOf o) = none := by
    refine atKey_none_of_get fun j p hj => ho ?_
    have : keyOf o ∈ xs.map (·.1) := List.mem_map.mpr ⟨_, List.mem_of_getElem? hj, rfl⟩
    rw [h2] at this
    obtain ⟨o', ho', e⟩ := List.mem_map.mp this
    rw [← keyOf_inj e]; exact ho'
  rw [storedH_new hnew] at hd'
  have kc := (Keep.of_same hD hs).cut
  refine hQ h' _ hs ⟨hlt, xs ++ [(keyOf o, a, v)], hd', by rw [List.map_append, List.map_append, h2]; rfl, ?_, ?_⟩
  · rw [List.map_append, List.map_append]
    exact (h3.up kc).append (.one (rk.up kc))
  · rw [List.map_append, List.map_append]
    exact (h4.up kc).append (.one (rv.up kc))
theorem DG.new {bad : List Addr} {h : Heap} (h1 : sysModules < h.objs.size) : DG W h.objs.size [] bad (h.push { cls := .type "dict", data := .dict #[] }) :=
  ⟨h1, [], Heap.DictOfH.new h, rfl, .nil, .nil⟩
theorem sm_lt {mg : Str → Option Value} (O : WOk W mg) {h : Heap} (u : Up W.base h) : sysModules < h.objs.size := by
  obtain ⟨o, _, _, e, _⟩ := O.g
  exact Nat.lt_trans (show 1 < 3 by decide) (Heap.lt_size (u _ _ e))
end
end Mine

namespace Mine
open PySem.Challenge (pw_gf0002_01)

theorem count_ok {W : Wd} {mg : Str → Option Value} {f : Addr} {q : Str} {cd : Value} (O : WOk W mg) (I : FnP W 2 f q cd) (os : List Nat) : FnC W f 1 [dct os] (encI os.length) := by
  refine fn_gives I O.lim rfl fun A L rm => ?_
  have e := (rfl : defAt pw_gf0002_01 2 = defAt pw_gf0002_01 2)
  conv at e => rhs; whnf
  rw [e]; clear e
  dsimp only
  have hA := rm.hd
  have hds : ∀ i d, ((os.map fun o => (key3 o, encI 1)).map (·.2))[i]? = some d → d = encI 1 := fun i d h => by
    rw [List.map_map] at h
    obtain ⟨_, q⟩ := xs_at (enc := fun _ => encI 1) h
    exact q
  refine xr_cons (xa own_in (d := encI 0) ev_int) ?_
  refine xr_cons (xf (fun i => [("nc", encI i)]) (fun i => [("calls", encI 1), ("nc", encI i)]) own_in (evi_vals hA (evn (d := dct os)) (dct_none os)) (sub_cons sub_nil) (fun i d hd => ?_) (fun i d hd => ?_)) (xr_ret ?_)
  · rw [hds i d hd]
    exact asl own_in
  · refine (xs_cons (x_aug (d := encI (i + 1)) (d₀ := encI i) (d₁ := encI 1) own_in rfl rfl rfl evn fun bad s v₁ v₂ _ _ r₁ r₂ Q E hQ => ?_) xs_nil).say (sub_cons sub_nil)
    obtain ⟨t, rfl⟩ := rp_int r₁; obtain ⟨u, rfl⟩ := rp_int r₂
    refine PySem.P.iadd_int (hQ _ s.heap _ (Up.refl _) ?_)
    exact .int _ _
  · have : ((os.map fun o => (key3 o, encI 1)).map (·.2)).length = os.length := by simp
    rw [this]
    exact evn

section
variable {W : Wd} {A : Around} {env : Env} {md : List Addr} {G G' : Cx}
theorem xt_set {D : Addr} {os : List Nat} {k : Nat} {o i e : Expr} {p pos : Pos} (hD : D ∈ md) (hDo : ¬ Own env D) (hu : A.units + 64 < cLine) (hk : k ∉ os) (hl : os.length ≤ 4000) (hv : Ev W A env G e (encI 1)) (ho : Ev W A env G o (rawD D)) (hi : Ev W A env G i (key3 k))
    (hs : swapsWith e (some (.Subscript o i p)) pos.line env = pure false := by rfl) : XT W A env md G (DG W D os) (.Assign [.Subscript o i p] e pos) G (DG W D (os ++ [k])) := by
  intro bad s Q E F T B hm hQ
  refine wpAny_Assign_Subscript (hv bad s F B _ _ fun v h₁ tk₁ u₁ r₁ => ?_) hs
  refine ho bad _ (F.up u₁) (B.up u₁) _ _ fun vD h₂ tk₂ u₂ r₂ => ?_
  refine hi bad _ ((F.up u₁).up u₂) ((B.up u₁).up u₂) _ _ fun vk h₃ tk₃ u₃ r₃ => ?_
  cases rp_raw r₂
  have u := (u₁.trans u₂).trans u₃
  refine DG.set (DG.mv _ _ _ _ T (u.keep bad).cut fun o e => u _ _ e) (hm D hD) hu hk hl r₃ ((r₁.up (u₂.keep _).cut).up (u₃.keep _).cut) fun h₄ tk₄ hs₄ T₄ => ?_
  have K4 : Keep [D] h₃ h₄ := Keep.of_same List.mem_cons_self hs₄
  have hst : ∃ o, h₄.get? D = some o := by obtain ⟨_, _, ⟨o, _, _, e, _⟩, _⟩ := T₄; exact ⟨o, e⟩
  refine hQ h₄ tk₄ (((F.up u)).off K4 (hm D hD) hDo hst) T₄ ((B.up u).keep (K4.more fun b hb => by rw [List.mem_singleton.mp hb]; exact hm D hD)) ((u.keep _).trans (K4.more fun b hb => by rw [List.mem_singleton.mp hb]; exact hD))

/-- func in the dict that grows: not there -/
theorem xt_if_new {D : Addr} {os : List Nat} {k : Nat} {l r : Expr} {b₁ b₂ : List Stmt} {p pos : Pos} {T' : List Addr → Heap → Prop} (hu : A.units + 64 < cLine) (hk : k ∉ os) (hl : Ev W A env G l (key3 k)) (hr : Ev W A env G r (rawD D)) (h : XTs W A env md G (DG W D os) b₂ G' T')
    (hm : behindInMarks .In r = false := by with_unfolding_all rfl) : XT W A env md G (DG W D os) (.If (.Compare l [.In] [r] p) b₁ b₂ pos) G' T' := by
  intro bad s Q E F T B hmd hQ
  refine wpAny_If (wpAny_isTrue_Compare1 (ev_two hl hr F B fun v₁ v₂ h₁ tk₁ u r₁ r₂ => ?_) hm)
  cases rp_raw r₂
  have T₁ : DG W D os bad h₁ := DG.mv _ _ _ _ T (u.keep bad).cut fun o e => u _ _ e
  obtain ⟨hlt, xs, hd, h2, h3, h4⟩ := id T₁
  obtain ⟨a, rfl, hka⟩ := key_is (prog := W.prog) (w := W.w) r₁
  refine wpAny_in_heap (knd := tupleKind (kS W.prog W.w)) (s := { s with heap := h₁, toks := tk₁ }) (show A.units + 1 < cLine by omega) (is_up (cut_up _ _) hka) (hbne hlt) hd ?_
  have hnew : atKey xs (keyOf k) = none := by
    refine atKey_none_of_get fun j p hj => hk ?_
    have : keyOf k ∈ xs.map (·.1) := List.mem_map.mpr ⟨_, List.mem_of_getElem? hj, rfl⟩
    rw [h2] at this
    obtain ⟨o', ho', e⟩ := List.mem_map.mp this
    rw [← keyOf_inj e]; exact ho'
  rw [hnew]
  refine wpAny_truthy_bool ?_
  exact h bad _ Q E (F.up u) T₁ (B.up u) hmd fun h' tk' F' T' B' K => hQ h' tk' F' T' B' ((u.keep _).trans K)
end

theorem XTs.say {W : Wd} {A : Around} {env : Env} {md : List Addr} {G G' : Cx} {T T' : List Addr → Heap → Prop} {sts : List Stmt} {G₁ : Cx} (h : XTs W A env md G T sts G' T') (hs : ∀ x d, G₁.lookup x = some d → G'.lookup x = some d) : XTs W A env md G T sts G₁ T' :=
  fun bad s Q E F t B hm hQ => h bad s Q E F t B hm fun h' tk F' t' B' K => hQ h' tk (F'.say hs) t' B' K
theorem use_xt {W : Wd} {A : Around} {env : Env} {md : List Addr} {G G' : Cx} {T T' : List Addr → Heap → Prop} {st : Stmt} {sts : List Stmt} {bad : List Addr} {s : Shared} {Q : Flow → Shared → Prop} {E : Value → Shared → Prop} (h : XT W A env md G T st G' T') (F : FS env bad G s.heap) (t : T bad s.heap) (B : Bs W bad s.heap) (hm : ∀ b ∈ md, b ∈ bad)
    (k : ∀ h' tk, FS env bad G' h' → T' bad h' → Bs W bad h' → Keep md s.heap h' → wpAny (model W.prog W.w) A (execs sts env) Q E { s with heap := h', toks := tk }) : wpAny (model W.prog W.w) A (execs (st :: sts) env) Q E s :=
  wpAny_execs_cons (h bad s _ E F t B hm fun h' tk F' t' B' K => k h' tk F' t' B' K)
theorem take_snoc {os : List Nat} {i : Nat} (h : i < os.length) : os.take (i + 1) = os.take i ++ [os.getD i 0] := by
  rw [List.take_add_one, List.getD_eq_getElem?_getD, List.getElem?_eq_getElem h]; rfl
theorem not_mem_take {os : List Nat} (hn : os.Nodup) {i : Nat} (h : i < os.length) : os.getD i 0 ∉ os.take i := by
  intro q
  have e := List.take_append_drop i os
  rw [← e, List.drop_eq_getElem_cons h] at hn
  rw [List.getD_eq_getElem?_getD, List.getElem?_eq_getElem h] at q
  have := (List.nodup_append.mp hn).2.2 _ q _ List.mem_cons_self
  exact this rfl

theorem add_ok {W : Wd} {mg : Str → Option Value} {f : Addr} {q : Str} {cd : Value} (O : WOk W mg) (I : FnP W 1 f q cd) (os : List Nat) (k : Nat) (hn : os.Nodup) (hk : k ∉ os) (hl : os.length ≤ 100) : FnC W f 1 [dct os, dct [k]] (dct (os ++ [k])) := by
  intro A bad s vs rm st B rs Q E hQ
  refine wpAny_call ?_
  refine fn_enter I O.lim rm st B rs.length rs fun L h₁ tk₁ E' hf u F₁ B₁ => ?_
  have rm' := rm.deeper (envOfC q (defAt pw_gf0002_01 1).2.2 L f cd)
  generalize A.deeper (envOfC q (defAt pw_gf0002_01 1).2.2 L f cd) = A' at rm' ⊢
  have hOI : OwnIn (envOfC q (defAt pw_gf0002_01 1).2.2 L f cd) (mdFn (defAt pw_gf0002_01 1).2.2 L) := own_in
  have hOb : ∀ b, Own (envOfC q (defAt pw_gf0002_01 1).2.2 L f cd) b → b ∈ mdFn (defAt pw_gf0002_01 1).2.2 L := fun b hb => hb.elim (fun q => q ▸ hOI.l) fun ⟨y, q⟩ => hOI.c y b q
  revert F₁ B₁ hOI hOb
  generalize hmd : mdFn (defAt pw_gf0002_01 1).2.2 L = mdL at hf ⊢
  clear hmd
  have e := (rfl : defAt pw_gf0002_01 1 = defAt pw_gf0002_01 1)
  conv at e => rhs; whnf
  rw [e]; clear e
  dsimp only
  intro F₁ B₁ hOI hOb
  have hA := rm'.hd
  refine wpAny_execs_cons (wpAny_Assign_Name (wpAny_Dict_empty ?_))
  dsimp only
  have fr : h₁.get? h₁.objs.size = none := by
    cases e : h₁.get? h₁.objs.size with
    | none => rfl
    | some o => exact absurd (Heap.lt_size e) (Nat.lt_irrefl _)
  have T₂ : ∀ bad, DG W h₁.objs.size [] bad (h₁.push { cls := .type "dict", data := .dict #[] }) := fun bad => DG.new (sm_lt O B₁.full)
  have u₂ : Up h₁ (h₁.push { cls := .type "dict", data := .dict #[] }) := Up.push _ _
  generalize h₁.push { cls := .type "dict", data := .dict #[] } = h₂ at T₂ u₂ ⊢
  generalize h₁.objs.size = D at fr T₂ ⊢
  have frs : ∀ b ∈ [D], h₁.get? b = none := fun b hb => by rw [List.mem_singleton.mp hb]; exact fr
  have F₂ := F₁.grow (own := [D]) u₂ frs fun b hb => by
    rw [List.mem_singleton.mp hb]; obtain ⟨_, _, ⟨o, _, _, e, _⟩, _⟩ := T₂ []; exact ⟨o, e⟩
  have B₂ := B₁.move ((cut_add (own := [D]) frs).trans (u₂.keep _).cut)
  refine F₂.store (s := { s with heap := h₂, toks := tk₁ }) rfl (.inl rfl) (.raw D) fun h₃ tk₃ a F₃ hs₃ ha => ?_
  have hOwn1 : ∀ b, Own _ b → b ≠ D := fun b hb q => by
    obtain ⟨o, e⟩ := F₁.stands b (F₁.ownBad hb)
    rw [q, fr] at e; cases e
  have haO : Own _ a := ha.elim .inl fun q => .inr ⟨_, q.2⟩
  have haD : a ≠ D := hOwn1 a haO
  have hDo : ¬ Own _ D := fun q => hOwn1 D q rfl
  have K₃ : Keep mdL h₂ h₃ := Keep.of_same (hOb a haO) hs₃
  have hmb : ∀ b ∈ D :: mdL, b ∈ [D] ++ (mdL ++ bad) := fun b hb => by
    rcases List.mem_cons.mp hb with rfl | hb
    · exact List.mem_append.mpr (.inl List.mem_cons_self)
    · exact List.mem_append.mpr (.inr (List.mem_append.mpr (.inl hb)))
  have K₃' : Keep ([D] ++ (mdL ++ bad)) h₂ h₃ := K₃.more fun b hb => hmb b (List.mem_cons_of_mem _ hb)
  have T₃ : DG W D [] ([D] ++ (mdL ++ bad)) h₃ := DG.mv _ _ _ _ (T₂ _) K₃'.cut fun o e => (hs₃.2 D (Ne.symm haD)).trans e
  have B₃ := B₂.keep K₃'
  have hO' : OwnIn _ (D :: mdL) := ⟨List.mem_cons_of_mem _ hOI.l, fun y c e => List.mem_cons_of_mem _ (hOI.c y c e)⟩
  have hDm : D ∈ D :: mdL := List.mem_cons_self
  refine use_xt (md := D :: mdL) (xt_for (Gi := fun _ => [("new_callers", rawD D), ("target", dct os), ("source", dct [k])]) (Gi' := fun i => [("caller", encI 1), ("func", key3 (os.getD i 0)), ("new_callers", rawD D), ("target", dct os), ("source", dct [k])])
    (T := fun i => DG W D (os.take i)) (D := D) (fun _ => DG.mv) hDm (.inl hDo) (evi_items hA (evn (d := dct os)) (dct_none os)) (sub_cons (sub_cons (sub_cons sub_nil))) (fun i d hd => ?_) (fun i d hd => ?_)) F₃ T₃ B₃ hmb fun h₄ tk₄ F₄ T₄ B₄ K₄ => ?_
  · rw [List.map_map] at hd
    obtain ⟨hi, rfl⟩ := xs_at (enc := fun o => PyData.tuple [key3 o, encI 1]) hd
    have : os[i] = os.getD i 0 := by rw [List.getD_eq_getElem?_getD, List.getElem?_eq_getElem hi]; rfl
    rw [this]
    exact asl2 hA hO'
  · rw [List.map_map] at hd
    obtain ⟨hi, rfl⟩ := xs_at (enc := fun o => PyData.tuple [key3 o, encI 1]) hd
    rw [take_snoc hi]
    exact (xts_cons (xt_set hDm hDo rm'.u64 (not_mem_take hn hi) (by rw [List.length_take]; omega) evn evn evn) xts_nil).say (sub_cons (sub_cons (sub_cons sub_nil)))
  have el4 : os.take ((os.map fun o => (key3 o, encI 1)).map fun p => PyData.tuple [p.1, p.2]).length = os := by simp
  rw [el4] at T₄
  refine use_xt (md := D :: mdL) (xt_for (Gi := fun _ => [("new_callers", rawD D)]) (Gi' := fun i => [("caller", encI 1), ("func", key3 k), ("new_callers", rawD D)])
    (T := fun i => DG W D (os ++ [k].take i)) (D := D) (fun _ => DG.mv) hDm (.inl hDo) (evi_items hA (evn (d := dct [k])) (dct_none [k])) (sub_cons sub_nil) (fun i d hd => ?_) (fun i d hd => ?_)) F₄ (by simpa using T₄) B₄ hmb fun h₅ tk₅ F₅ T₅ B₅ K₅ => ?_
  · rw [List.map_map] at hd
    obtain ⟨hi, rfl⟩ := xs_at (enc := fun o => PyData.tuple [key3 o, encI 1]) hd
    have : [k][i] = k := by simp
    rw [this]
    exact asl2 hA hO'
  · rw [List.map_map] at hd
    obtain ⟨hi, rfl⟩ := xs_at (enc := fun o => PyData.tuple [key3 o, encI 1]) hd
    have hi0 : i = 0 := by simpa using hi
    subst hi0
    simp only [List.take_zero, List.append_nil, Nat.zero_add, List.take_succ_cons]
    exact (xts_cons (xt_if_new rm'.u64 hk evn evn ((xts_cons (xt_set hDm hDo rm'.u64 hk (by omega) evn evn evn) xts_nil).say (sub_cons sub_nil))) xts_nil)
  have el5 : os ++ [k].take (([k].map fun o => (key3 o, encI 1)).map fun p => PyData.tuple [p.1, p.2]).length = os ++ [k] := by simp
  rw [el5] at T₅
  refine wpAny_execs_cons (wpAny_Return_some (use_ev (evn (d := rawD D)) F₅ B₅ fun v h₆ tk₆ u₆ r₆ => ?_))
  cases rp_raw r₆
  have T₆ : DG W D (os ++ [k]) ([D] ++ (mdL ++ bad)) h₆ := DG.mv _ _ _ _ T₅ (u₆.keep _).cut fun o e => u₆ _ _ e
  have hDb : D ∉ mdL ++ bad := fun q => by
    obtain ⟨o, e⟩ := F₁.stands _ q
    rw [fr] at e; cases e
  have r := T₆.rp hDb
  have ul : Up (cut h₆ (mdL ++ bad)) (cut h₆ bad) := cut_less fun b hb => List.mem_append.mpr (.inr hb)
  refine hQ (.ref D) h₆ tk₆ (fun b o e => ?_) (Rp.up ul r)
  have hbD : b ∉ D :: mdL := fun q => by
    rcases List.mem_cons.mp q with q | q
    · have := u _ _ e
      rw [q, fr] at this; cases this
    · rw [hf b q] at e; cases e
  exact u₆ _ _ (K₅ _ _ hbD (K₄ _ _ hbD (K₃ _ _ (fun q => hbD (List.mem_cons_of_mem _ q)) (u₂ _ _ (u _ _ e)))))
end Mine

namespace Mine

def pairsN (M : Nat) : List (Nat × Nat) := (List.range M).flatMap fun other => (List.range other).map fun one => (one, other)
def beatN (M N : Nat) : List (Nat × Nat) := (pairsN M).zipIdx.map fun p => if (bits (pairsN M).length N).getD p.2 0 = 1 then p.1 else (p.1.2, p.1.1)
def winsOf (M : Nat) (B : List (Nat × Nat)) : List Nat := (List.range M).map fun i => (B.filter fun p => p.1 = i).length
def rowsOf (M : Nat) (B : List (Nat × Nat)) : List (List Nat) := (orders M (List.range M)).filter fun row => decide (((List.range' 1 (M - 1)).filter fun k => !decide ((row.getD (k - 1) 0, row.getD k 0) ∈ B)) = [])
def ringsOf (M : Nat) (B : List (Nat × Nat)) : List Nat := (List.range M).flatMap fun a => (List.range a).flatMap fun b => (List.range b).flatMap fun c =>
  if ([a, b, c].filter fun one => decide (([a, b, c].filter fun other => decide ((one, other) ∈ B)).length = 2)) = [] then [1] else []
def distinct : List Nat → List Nat
  | [] => []
  | x :: xs => if x ∈ distinct xs then distinct xs else x :: distinct xs
def nearOf (B : List (Nat × Nat)) (king : Nat) : List Nat := (B.filter fun p => p.1 = king).map (·.2)
def farOf (M : Nat) (B : List (Nat × Nat)) (king : Nat) : List Nat :=
  (List.range M).filter fun one => decide (one ≠ king) && (!decide (one ∈ nearOf B king) && decide (((nearOf B king).filter fun other => decide ((other, one) ∈ B)) = []))
def maxOf (l : List Nat) : Nat := l.foldl max 0
def kingsOf (M : Nat) (B : List (Nat × Nat)) : List Nat := (List.range M).filter fun one => (winsOf M B).getD one 0 = maxOf (winsOf M B)

/-- what the law asks, in plain terms -/
def Good (M : Nat) (B : List (Nat × Nat)) : Prop :=
  (winsOf M B).sum = (pairsN M).length ∧ (∀ c ∈ winsOf M B, c ≤ M - 1) ∧
  ((winsOf M B).map fun c => c * c).sum = ((winsOf M B).map fun c => (M - 1 - c) * (M - 1 - c)).sum ∧
  (rowsOf M B).length % 2 = 1 ∧ rowOf B (List.range M) ∈ rowsOf M B ∧
  (ringsOf M B).length + ((winsOf M B).map fun c => c * (c - 1) / 2).sum = M * (M - 1) * (M - 2) / 6 ∧
  ((ringsOf M B = []) ↔ (distinct (winsOf M B)).length = M) ∧ ((distinct (winsOf M B)).length = M → (rowsOf M B).length = 1) ∧
  (∀ king ∈ kingsOf M B, farOf M B king = [])
end Mine

namespace Mine
open PySem.Challenge (pw_gf0002_01)

def manyOf (n : Int) : Nat := 2 + (n.fmod 4).toNat
def numOf (n : Int) : Nat := n.natAbs % 2 ^ (pairsN (manyOf n)).length
theorem many_eq (n : Int) : 2 + n.fmod 4 = (manyOf n : Int) := by
  unfold manyOf
  have := Int.fmod_nonneg_of_pos n (show (0 : Int) < 4 by decide)
  omega
theorem many_le (n : Int) : 2 ≤ manyOf n ∧ manyOf n ≤ 5 := by
  unfold manyOf
  have h1 := Int.fmod_nonneg_of_pos n (show (0 : Int) < 4 by decide)
  have h2 := Int.fmod_lt_of_pos n (show (0 : Int) < 4 by decide)
  omega
theorem pairs_len {M : Nat} (h : M ≤ 5) : (pairsN M).length ≤ 10 := by
  have : M = 0 ∨ M = 1 ∨ M = 2 ∨ M = 3 ∨ M = 4 ∨ M = 5 := by omega
  rcases this with rfl | rfl | rfl | rfl | rfl | rfl <;> decide
theorem num_eq (n : Int) : (if n < 0 then -n else n).fmod (2 ^ (((pairsN (manyOf n)).length : Nat) : Int).toNat) = (numOf n : Int) := by
  unfold numOf
  rw [Int.toNat_natCast]
  have e1 : (if n < 0 then -n else n) = (n.natAbs : Int) := by split <;> omega
  have e2 : ((2 : Int) ^ (pairsN (manyOf n)).length) = ((2 ^ (pairsN (manyOf n)).length : Nat) : Int) := by simp
  rw [e1, e2, Int.fmod_eq_emod_of_nonneg _ (Int.natCast_nonneg _), Int.natCast_emod]
theorem num_lt (n : Int) : numOf n < 2 ^ (pairsN (manyOf n)).length := Nat.mod_lt _ (Nat.two_pow_pos _)

theorem evI {W : Wd} {A : Around} {env : Env} {G : Cx} {e : Expr} {a : Int} {b : Nat} (h : Ev W A env G e (.int a)) (he : a = (b : Int)) : Ev W A env G e (encI b) := by subst he; exact h
/-- the head of the law: how many, which pairs, which number -/
theorem law_1 {W : Wd} {A : Around} {mg : Str → Option Value} {L f : Addr} {q : Str} {cd : Value} {ns : List Int} {bad md : List Addr} {s : Shared} {Q : Flow → Shared → Prop} {E : Value → Shared → Prop} (O : WOk W mg) (hA : A.handled = none)
    (h1 : mg "sum" = none) (h2 : mg "range" = none) (h3 : mg "abs" = none) (h4 : mg "len" = none)
    (hO : OwnIn (envOfC q (defAt pw_gf0002_01 9).2.2 L f cd) md) (F : FS (envOfC q (defAt pw_gf0002_01 9).2.2 L f cd) bad [("script", .list (ns.map PyData.int))] s.heap) (B : Bs W bad s.heap) (hm : ∀ b ∈ md, b ∈ bad)
    (k : ∀ h' tk, FS (envOfC q (defAt pw_gf0002_01 9).2.2 L f cd) bad [("number", encI (numOf ns.sum)), ("pairs", .list ((pairsN (manyOf ns.sum)).map encP)), ("many", encI (manyOf ns.sum))] h' → Bs W bad h' → Keep md s.heap h' →
      wpAny (model W.prog W.w) A (execs ((defAt pw_gf0002_01 9).2.1.drop 3) (envOfC q (defAt pw_gf0002_01 9).2.2 L f cd)) Q E { s with heap := h', toks := tk }) :
    wpAny (model W.prog W.w) A (execs (defAt pw_gf0002_01 9).2.1 (envOfC q (defAt pw_gf0002_01 9).2.2 L f cd)) Q E s := by
  revert hO F k
  have e := (rfl : defAt pw_gf0002_01 9 = defAt pw_gf0002_01 9)
  conv at e => rhs; whnf
  rw [e]; clear e
  dsimp only
  intro hO F k
  have hM := (many_le ns.sum).2
  have hP := pairs_len hM
  refine use_x (xa hO (d := encI (manyOf ns.sum)) (evI (ev_add (a := 2) ev_int (ev_mod (ev_sum hA (gl_b O h1 rfl) evn) (b := 4) ev_int (by decide))) (many_eq ns.sum))) F B hm fun h₁ tk₁ F₁ B₁ K₁ => ?_
  have e1 : (pairsN (manyOf ns.sum)).map encP = (List.range (manyOf ns.sum)).flatMap fun other => (List.range other).flatMap fun one => [encP (one, other)] := by
    unfold pairsN
    rw [List.map_flatMap]
    congr 1; funext other
    rw [flatMap_one, List.map_map]; rfl
  refine use_x (xc (List.range (manyOf ns.sum)) encI _ hO (er1 hA (gl_b O h2 rfl) evn (by omega)) (fun C D other ho => body0 (ri (List.range other) encI (fun one => [encP (one, other)]) ?_ fun one _ => body0 (rl ?_))) (by rw [← e1, List.length_map]; exact le_line (by omega))) F₁ B₁ hm fun h₂ tk₂ F₂ B₂ K₂ => ?_
  · exact er1 hA (gl_b O h2 rfl) evn (by have := List.mem_range.mp ho; omega)
  · exact eP evn evn
  rw [← e1] at F₂
  refine use_x (xa hO (d := encI (numOf ns.sum)) (evI (ev_mod (ev_abs (gl_b O h3 rfl) (ev_sum hA (gl_b O h1 rfl) evn)) (ev_pow (a := 2) ev_int (el (xs := pairsN (manyOf ns.sum)) (enc := encP) (gl_b O h4 rfl) evn (by omega)) (by omega) ?_) ?_) (num_eq ns.sum))) F₂ B₂ hm fun h₃ tk₃ F₃ B₃ K₃ => ?_
  · have : (Builtin.Int.intBits 2 : Int) = 2 := by decide
    rw [this]; omega
  · rw [Int.toNat_natCast]
    exact Int.ne_of_gt (Int.pow_pos (by decide))
  · exact k h₃ tk₃ (F₃.say (sub_cons (sub_cons (sub_cons sub_nil)))) B₃ ((K₁.trans K₂).trans K₃)
end Mine

namespace Mine
open PySem.Challenge (pw_gf0002_01)

/-- an expression that may write the table of code at `P` -/
def EvK (W : Wd) (A : Around) (env : Env) (G : Cx) (P : Addr) (e : Expr) (d : PyData) : Prop :=
  ∀ (bad : List Addr) (s : Shared) (Q : Value → Shared → Prop) (E : Value → Shared → Prop), FS env bad G s.heap → Bs W bad s.heap → P ∈ bad → s.heap.get? P = some (tabObj #[]) →
    (∀ v h' tk, FS env bad G h' → Bs W bad h' → Keep [P] s.heap h' → (∃ ps, h'.get? P = some (tabObj ps)) → Rp (cut h' bad) v d → Q v { s with heap := h', toks := tk }) → wpAny (model W.prog W.w) A (eval e env) Q E s
section
variable {W : Wd} {A : Around} {env : Env} {md : List Addr} {G : Cx} {P : Addr}
theorem evk_call {x : Str} {p pos : Pos} {f : Addr} {n : Nat} {e : Expr} {es : List Expr} {ds : List PyData} {r : PyData} (g : Gl W env x (.ref f)) (hf : ∀ h, Up W.base h → FnAt f h) (hc : FnK W f P n ds r) (rm : Room A n) (hPo : ¬ Own env P)
    (hs : Sp W A env G (e :: es) ds) (he : starEach (e :: es) env = (false, eval e env) :: starEach es env := by rfl) (hpl : (backTo pos (starEach es env)).any (·.1) = false := by rfl) (hd : (x == ("__debug__" : Str)) = false := by decide) :
    EvK W A env G P (.Call (.Name x p) (e :: es) [] pos) r := by
  intro bad s Q E F B hPb hP hQ
  refine Call_Name rfl (wp_global g B.full ?_ hd)
  refine callWith_F (hf _ B.full) ?_ he hpl
  refine hs pos bad s _ _ F B fun vs h' tk u rs => ⟨hf _ (B.up u).full, ?_⟩
  rw [List.nil_append]
  refine hc A bad _ vs Q E rm hPb (F.up u).stands (B.up u) (u _ _ hP) rs fun v h'' tk' K hp r' => ?_
  exact hQ v h'' tk' ((F.up u).off K hPb hPo (let ⟨_, e⟩ := hp; ⟨_, e⟩)) ((B.up u).keep (K.more fun b hb => by rw [List.mem_singleton.mp hb]; exact hPb)) ((u.keep _).trans K) hp r'

theorem opAddL {xs ys : List PyData} (hsz : xs.length + ys.length ≤ sizeLine) (bad : List Addr) (s : Shared) (v₁ v₂ : Value) (F : FS env bad G s.heap) (r₁ : Rp (cut s.heap bad) v₁ (.list xs)) (r₂ : Rp (cut s.heap bad) v₂ (.list ys)) : Gives W A (binaryOp .Add v₁ v₂) bad s (.list (xs ++ ys)) := fun Q E hQ => by
    obtain ⟨a, vs, n, rfl, _, e₁, _, q₁⟩ := rp_list r₁; obtain ⟨b, ws, m, rfl, _, e₂, _, q₂⟩ := rp_list r₂
    refine PySem.P.add_list e₁ e₂ ?_ (by simpa [q₁.length, q₂.length] using hsz)
    have := rp_new_list F.fresh (q₁.append q₂)
    rw [show (vs ++ ws).toArray = vs.toArray ++ ws.toArray from by simp] at this
    exact hQ _ _ s.toks (Up.push _ _) this
theorem evk_addL {e₁ e₂ : Expr} {pos : Pos} {xs ys : List PyData} (h₁ : EvK W A env G P e₁ (.list xs)) (h₂ : Ev W A env G e₂ (.list ys)) (hsz : xs.length + ys.length ≤ sizeLine) : EvK W A env G P (.BinOp e₁ .Add e₂ pos) (.list (xs ++ ys)) := by
  intro bad s Q E F B hPb hP hQ
  refine wpAny_BinOp (h₁ bad s _ _ F B hPb hP fun v₁ h₁' tk₁ F₁ B₁ K₁ hp₁ r₁ => ?_)
  refine h₂ bad _ F₁ B₁ _ _ fun v₂ h₂' tk₂ u₂ r₂ => ?_
  refine opAddL hsz bad _ v₁ v₂ (F₁.up u₂) (r₁.up (u₂.keep _).cut) r₂ Q E fun v h₃ tk₃ u₃ r₃ => ?_
  have u := u₂.trans u₃
  exact hQ v h₃ tk₃ (F₁.up u) (B₁.up u) (K₁.trans (u.keep _)) (let ⟨ps, e⟩ := hp₁; ⟨ps, u _ _ e⟩) r₃
/-- xs[:k], as a tree behind the list's value -/
theorem evk_upto {e k : Expr} {p pos : Pos} {ds : List PyData} {n : Nat} (h : EvK W A env G P e (.list ds)) (hk : Ev W A env G k (.int n)) (hz : ds.length ≤ sizeLine) : EvK W A env G P (.Subscript e (.Slice none (some k) none p) pos) (.list (ds.take n)) := by
  intro bad s Q E F B hPb hP hQ
  refine Subscript_ (h bad s _ _ F B hPb hP fun v h₁ tk F₁ B₁ K₁ hp₁ r => ?_)
  refine wpAny_Slice ?_
  rw [evalPart_none, evalPart_some]
  refine wpAny_pure (hk bad _ F₁ B₁ _ _ fun v₂ h₂ tk₂ u₂ r₂ => ?_)
  refine wpAny_pure ?_
  obtain ⟨t, rfl⟩ := rp_int r₂
  obtain ⟨a, vs, m, rfl, ec, ea, _, rs⟩ := rp_list (r.up (u₂.keep _).cut)
  have hlen := rs.length
  have hl : Heap.IsList (h₂.push { cls := .type "slice", data := .fields #[.none, .int n t, .none] }) a vs.toArray := ⟨_, Heap.get?_push_of_some _ ea, rfl, m, rfl⟩
  refine tail_any (s := { s with heap := h₂.push { cls := .type "slice", data := .fields #[.none, .int n t, .none] }, toks := tk₂ }) (Heap.IsList.typeIs hl) list_getitem_lookup
    (wpAny_getItem_list_slice hl (Heap.IsSliceOf.new ..) .none (.int _ _) .none (by simp) ?_ (by simp; omega)) (slice_hs _ _ _ _ _)
  rw [slicePick_upto']
  have F₃ := (F₁.up u₂).up (Up.push h₂ { cls := .type "slice", data := .fields #[.none, .int n t, .none] })
  have r3 := rp_new_list F₃.fresh ((rs.take n).up (cut_push_up { cls := .type "slice", data := .fields #[.none, .int n t, .none] }))
  have u := (u₂.trans (Up.push h₂ { cls := .type "slice", data := .fields #[.none, .int n t, .none] })).trans (Up.push _ { cls := .type "list", data := .seq (vs.take n).toArray })
  exact hQ _ _ tk₂ (F₁.up u) (B₁.up u) (K₁.trans (u.keep _)) (let ⟨ps, e⟩ := hp₁; ⟨ps, u _ _ e⟩) r3

/-- figures = ..: a statement that may write the table -/
theorem use_xk {x : Str} {p pos : Pos} {e : Expr} {d : PyData} {sts : List Stmt} {bad : List Addr} {s : Shared} {Q : Flow → Shared → Prop} {E : Value → Shared → Prop} (O : OwnIn env md) (hPo : ¬ Own env P) (h : EvK W A env G P e d) (F : FS env bad G s.heap) (B : Bs W bad s.heap) (hm : ∀ b ∈ md, b ∈ bad) (hPb : P ∈ bad) (hP : s.heap.get? P = some (tabObj #[]))
    (k : ∀ h' tk, FS env bad ((x, d) :: G) h' → Bs W bad h' → Keep (P :: md) s.heap h' → (∃ ps, h'.get? P = some (tabObj ps)) → wpAny (model W.prog W.w) A (execs sts env) Q E { s with heap := h', toks := tk })
    (hk : env.scope.kind = .function := by rfl) (hx : (env.kindOf x == some .local || (env.kindOf x == some .cell && (env.cells.lookup x).isSome)) = true := by rfl) (hs : swapsWith e (some (.Name x p)) pos.line env = pure false := by rfl) :
    wpAny (model W.prog W.w) A (execs (.Assign [.Name x p] e pos :: sts) env) Q E s := by
  refine wpAny_execs_cons (wpAny_Assign_Name (h bad s _ E F B hPb hP fun v h' tk F' B' K' hp r => ?_) hs)
  refine F'.store hk (by simpa using hx) r fun h'' tk' a F'' hs' ha => ?_
  have K := own_keep (bad := bad) O hs' ha
  have haO : Own env a := ha.elim .inl fun q => .inr ⟨x, q.2⟩
  have haP : P ≠ a := fun q => hPo (q ▸ haO)
  exact k h'' tk' F'' (B'.keep (K.more hm)) ((K'.more fun b hb => by rw [List.mem_singleton.mp hb]; exact List.mem_cons_self).trans (K.more fun b hb => List.mem_cons_of_mem _ hb)) (let ⟨ps, e⟩ := hp; ⟨ps, (hs'.2 P haP).trans e⟩)
/-- if CALL != e: the call may write the table; the test fails -/
theorem use_ifk {l r : Expr} {b₁ : List Stmt} {p pos : Pos} {d₁ d₂ : PyData} {sts : List Stmt} {bad : List Addr} {s : Shared} {Q : Flow → Shared → Prop} {E : Value → Shared → Prop} (h : EvK W A env G P l d₁) (h₂ : Ev W A env G r d₂) (hc : CmpG W A .NotEq d₁ d₂ false) (F : FS env bad G s.heap) (B : Bs W bad s.heap) (hPb : P ∈ bad) (hP : s.heap.get? P = some (tabObj #[]))
    (k : ∀ h' tk, FS env bad G h' → Bs W bad h' → Keep [P] s.heap h' → (∃ ps, h'.get? P = some (tabObj ps)) → wpAny (model W.prog W.w) A (execs sts env) Q E { s with heap := h', toks := tk })
    (hm : behindInMarks .NotEq r = false := by with_unfolding_all rfl) : wpAny (model W.prog W.w) A (execs (.If (.Compare l [.NotEq] [r] p) b₁ [] pos :: sts) env) Q E s := by
  refine wpAny_execs_cons (wpAny_If (wpAny_isTrue_Compare1 (h bad s _ _ F B hPb hP fun v₁ h₁ tk₁ F₁ B₁ K₁ hp₁ r₁ => ?_) hm))
  refine h₂ bad _ F₁ B₁ _ _ fun v₂ h₂' tk₂ u₂ r₂ => ?_
  refine hc bad _ v₁ v₂ _ _ (r₁.up (u₂.keep _).cut) r₂ (wpAny_truthy_bool ?_)
  exact wpAny_execs_nil (k h₂' tk₂ (F₁.up u₂) (B₁.up u₂) (K₁.trans (u₂.keep _)) (let ⟨ps, e⟩ := hp₁; ⟨ps, u₂ _ _ e⟩))
end

theorem bits_zero : ∀ k, bits k 0 = List.replicate k 0
  | 0 => rfl
  | k + 1 => by rw [bits, bits_zero k, List.replicate_succ]
theorem bits_take {a C : Nat} (h : a < 2 ^ C) : (bits (nb2 a) a ++ List.replicate C 0).take C = bits C a := by
  have h1 := nb2_le h
  have e := bits_split (nb2 a) (C - nb2 a) a
  rw [Nat.mod_eq_of_lt (lt_nb2 a), Nat.div_eq_of_lt (lt_nb2 a), bits_zero, show nb2 a + (C - nb2 a) = C by omega] at e
  rw [e, List.take_append, bits_len, List.take_of_length_le (by rw [bits_len]; exact h1), List.take_replicate]
  congr 2; omega
theorem val_bits : ∀ C a, a < 2 ^ C → val (bits C a) = a
  | 0, a, h => by simp at h; subst h; rfl
  | C + 1, a, h => by rw [bits, val, val_bits C (a / 2) (by omega)]; omega
theorem bits_le : ∀ C a, ∀ x ∈ bits C a, x ≤ 1
  | 0, _, _, h => nomatch h
  | C + 1, a, x, h => by
    rw [bits] at h
    rcases List.mem_cons.mp h with rfl | h
    · omega
    · exact bits_le C (a / 2) x h
end Mine

namespace Mine
open PySem.Challenge (pw_gf0002_01)

theorem er_enum {W : Wd} {A : Around} {env : Env} {G : Cx} {α : Type} {xs : List α} {enc : α → PyData} {elts : List Expr} {k : Nat} {tp : Pos} {e : Expr} {x : Str} {p pos : Pos} (hA : A.handled = none) (g : Gl W env x (.type "enumerate")) (h : Ev W A env G e (.list (xs.map enc)))
    (he : starEach [e] env = [(false, eval e env)] := by rfl) (hd : (x == ("__debug__" : Str)) = false := by decide) :
    EvI W A env G (.Tuple elts k tp) (.Call (.Name x p) [e] [] pos) (xs.zipIdx.map fun p => .tuple [encI p.2, enc p.1]) := by
  have h := evi_enum (elts := elts) (k := k) (tp := tp) (p := p) (pos := pos) hA g h he hd
  rw [List.zipIdx_map, List.map_map] at h
  exact h

theorem law_2 {W : Wd} {A : Around} {mg : Str → Option Value} {L f : Addr} {q : Str} {cd : Value} {M N c₁ P₁ c₂ P₂ f₁ f₂ : Nat} {q₁ q₂ : Str} {bad md : List Addr} {s : Shared} {Q : Flow → Shared → Prop} {E : Value → Shared → Prop} (O : WOk W mg) (rm : Room A 12) (hM : M ≤ 5) (hN : N < 2 ^ (pairsN M).length) (hM2 : 2 ≤ M)
    (K₁ : Mk W mg c₁ P₁) (K₂ : Mk W mg c₂ P₂) (I₁ : FnP W 4 f₁ q₁ (.ref c₁)) (I₂ : FnP W 5 f₂ q₂ (.ref c₂)) (g₁ : mg "_int2digits" = some (.ref f₁)) (g₂ : mg "_digits2int" = some (.ref f₂)) (h4 : mg "len" = none) (h5 : mg "enumerate" = none)
    (hO : OwnIn (envOfC q (defAt pw_gf0002_01 9).2.2 L f cd) md) (hP₁o : ¬ Own (envOfC q (defAt pw_gf0002_01 9).2.2 L f cd) P₁) (hP₂o : ¬ Own (envOfC q (defAt pw_gf0002_01 9).2.2 L f cd) P₂) (h12 : P₁ ≠ P₂)
    (F : FS (envOfC q (defAt pw_gf0002_01 9).2.2 L f cd) bad [("number", encI N), ("pairs", .list ((pairsN M).map encP)), ("many", encI M)] s.heap) (B : Bs W bad s.heap) (hm : ∀ b ∈ md, b ∈ bad)
    (hP₁b : P₁ ∈ bad) (hP₁ : s.heap.get? P₁ = some (tabObj #[])) (hP₂b : P₂ ∈ bad) (hP₂ : s.heap.get? P₂ = some (tabObj #[])) (hP₂m : P₂ ∉ md) (hP₁m : P₁ ∉ md)
    (k : ∀ h' tk, FS (envOfC q (defAt pw_gf0002_01 9).2.2 L f cd) bad [("beat", .list ((beatN M N).map encP)), ("pairs", .list ((pairsN M).map encP)), ("many", encI M)] h' → Bs W bad h' → Keep (P₁ :: P₂ :: md) s.heap h' → (∃ ps, h'.get? P₁ = some (tabObj ps)) → (∃ ps, h'.get? P₂ = some (tabObj ps)) →
      wpAny (model W.prog W.w) A (execs ((defAt pw_gf0002_01 9).2.1.drop 6) (envOfC q (defAt pw_gf0002_01 9).2.2 L f cd)) Q E { s with heap := h', toks := tk }) :
    wpAny (model W.prog W.w) A (execs ((defAt pw_gf0002_01 9).2.1.drop 3) (envOfC q (defAt pw_gf0002_01 9).2.2 L f cd)) Q E s := by
  have hA := rm.hd
  have hP := pairs_len hM
  have hPpos : 0 < (pairsN M).length := by
    have : M = 2 ∨ M = 3 ∨ M = 4 ∨ M = 5 := by omega
    rcases this with rfl | rfl | rfl | rfl <;> decide
  have hN10 : N < 2 ^ 10 := Nat.lt_of_lt_of_le hN (Nat.pow_le_pow_right (by decide) hP)
  revert hO F k hP₁o hP₂o
  have e := (rfl : defAt pw_gf0002_01 9 = defAt pw_gf0002_01 9)
  conv at e => rhs; whnf
  rw [e]; clear e
  dsimp only
  intro hO hP₁o hP₂o F k
  have hnb := nb2_le hN10
  have ed : (((bits (nb2 N) N).map encI ++ List.replicate (pairsN M).length (encI 0)).take (pairsN M).length) = (bits (pairsN M).length N).map encI := by
    rw [← bits_take hN, List.map_take, List.map_append, List.map_replicate]
  have hlb : ((bits (nb2 N) N).map encI).length = nb2 N := by rw [List.length_map, bits_len]
  refine use_xk (d := encL (bits (pairsN M).length N)) hO hP₁o (?_ : EvK W A _ _ P₁ _ _) F B hm hP₁b hP₁ fun h₁ tk₁ F₁ B₁ K₁' hp₁ => ?_
  · unfold encL
    rw [← ed]
    refine evk_upto (evk_addL (xs := (bits (nb2 N) N).map encI) (evk_call (gl_f O g₁) (fun h => fnAt_of I₁) (i2d_ok O K₁ I₁ h4 hN10) rm hP₁o (sp_cons evn (sp_cons (d := encI 1) ev_int sp_nil))) (eRep (k := (pairsN M).length) (d := encI 0) (ev_list (sp_cons ev_int sp_nil) (le_line (show 1 ≤ 4000 by decide))) (el (enc := encP) (gl_b O h4 rfl) evn (by omega)) (by omega)) (le_line ?_)) (el (enc := encP) (gl_b O h4 rfl) evn (by omega)) (le_line ?_)
    · rw [hlb, List.length_replicate]; omega
    · rw [List.length_append, hlb, List.length_replicate]; omega
  have hP₂' : h₁.get? P₂ = some (tabObj #[]) := K₁' P₂ _ (fun q => by
    rcases List.mem_cons.mp q with q | q
    · exact h12 q.symm
    · exact hP₂m q) hP₂
  have hbl := bits_len (pairsN M).length N
  refine use_ifk (P := P₂) (d₁ := encI N) (d₂ := encI N) ?_ evn (by
    have := cmp_ne (W := W) (A := A) (shI (k := 0) N).shaped (shI (k := 0) N).shaped rm.u64 (eqv_I N N)
    simpa using this) F₁ B₁ hP₂b hP₂' fun h₂ tk₂ F₂ B₂ K₂' hp₂ => ?_
  · have := d2i_ok O K₂ I₂ h4 (digits := bits (pairsN M).length N) (bits_le _ _) (by omega) (by omega)
    rw [val_bits _ _ hN] at this
    exact evk_call (gl_f O g₂) (fun h => fnAt_of I₂) this (rm.less (by omega)) hP₂o (sp_cons evn (sp_cons (d := encI 1) ev_int sp_nil))
  have eb : (beatN M N).map encP = (pairsN M).zipIdx.flatMap fun p => [if decide ((bits (pairsN M).length N).getD p.2 0 = 1) then encP p.1 else .tuple [encI p.1.2, encI p.1.1]] := by
    unfold beatN
    rw [flatMap_one, List.map_map]
    congr 1; funext p
    show encP (if _ then _ else _) = _
    by_cases h : (bits (pairsN M).length N).getD p.2 0 = 1
    · simp only [h, if_true, decide_true]
    · simp only [h, if_false, decide_false, Bool.false_eq_true]; rfl
  have hzl : (pairsN M).zipIdx.length = (pairsN M).length := List.length_zipIdx ..
  refine use_x (xa hO (d := .list ((beatN M N).map encP)) (eb ▸ ec2 (pairsN M).zipIdx (fun p => encI p.2) (fun p => encP p.1) _ hA ?hi (fun C D p hp => body0 (rl (ev_ifexp (et_cmp (eIt (ps := bits (pairsN M).length N) evn evn (by rw [hbl]; have := List.snd_lt_of_mem_zipIdx hp; omega) (by omega)) (ev_int (i := 1)) (cmp_eq (d₂ := encI 1) (shI (k := 0) _).shaped (shI (k := 0) _).shaped rm.u64 (eqv_I _ _))) (fun _ => evn) (fun _ => ev_rev2 (d₁ := encI p.1.1) (d₂ := encI p.1.2) evn)))) ?hz)) F₂ B₂ hm fun h₃ tk₃ F₃ B₃ K₃' => ?fin
  case hi => exact er_enum (xs := pairsN M) (enc := encP) hA (gl_b O h5 rfl) evn
  case hz => rw [flatMap_one, List.length_map, hzl]; exact le_line (by omega)
  case fin =>
    have k1 : ∀ {h h'}, Keep (P₁ :: md) h h' → Keep (P₁ :: P₂ :: md) h h' := fun K => K.more fun b hb => by
      rcases List.mem_cons.mp hb with rfl | hb
      · exact List.mem_cons_self
      · exact List.mem_cons_of_mem _ (List.mem_cons_of_mem _ hb)
    have k2 : ∀ {h h'}, Keep [P₂] h h' → Keep (P₁ :: P₂ :: md) h h' := fun K => K.more fun b hb => by
      rw [List.mem_singleton.mp hb]; exact List.mem_cons_of_mem _ List.mem_cons_self
    have k3 : ∀ {h h'}, Keep md h h' → Keep (P₁ :: P₂ :: md) h h' := fun K => K.more fun b hb => List.mem_cons_of_mem _ (List.mem_cons_of_mem _ hb)
    refine k h₃ tk₃ (F₃.say (sub_cons (sub_cons (sub_cons sub_nil)))) B₃ (((k1 K₁').trans (k2 K₂')).trans (k3 K₃')) ?_ ?_
    · obtain ⟨ps, e⟩ := hp₁
      exact ⟨ps, K₃' _ _ hP₁m (K₂' _ _ (fun q => h12 (List.mem_singleton.mp q)) e)⟩
    · obtain ⟨ps, e⟩ := hp₂
      exact ⟨ps, K₃' _ _ hP₂m e⟩
end Mine

namespace Mine
open PySem.Challenge (pw_gf0002_01)

/-- the list at `a`, that may turn, bears `ds` -/
def CL (a : Addr) (ds : List PyData) (bad : List Addr) (h : Heap) : Prop := ∃ vs n, h.get? a = some { cls := .type "list", data := .seq (List.toArray vs) n } ∧ Rps (cut h bad) vs ds
theorem CL.mv {a : Addr} {ds : List PyData} : Mv (CL a ds) a := fun _ _ _ _ ⟨vs, n, e, r⟩ u k => ⟨vs, n, k _ e, r.up u⟩
theorem CL.up {a : Addr} {ds : List PyData} {bad : List Addr} {h h' : Heap} (x : CL a ds bad h) (u : Up h h') : CL a ds bad h' := CL.mv _ _ _ _ x (u.keep bad).cut fun o e => u _ _ e

section
variable {W : Wd} {A : Around} {env : Env} {md : List Addr} {G G' : Cx} {S : List Addr → Heap → Prop}

/-- {} -/
theorem eDict0 {mg : Str → Option Value} (O : WOk W mg) {pos : Pos} : Ev W A env G (.Dict [] [] pos) (dct []) := by
  intro bad s F B Q E hQ
  refine wpAny_Dict_empty (hQ _ _ s.toks (Up.push _ _) ?_)
  exact .dict (sm_lt O B.full) (fun p hp => nomatch hp) (cut_push F.fresh rfl) .nil .nil

/-- {key: 1} -/
theorem eDict1 {mg : Str → Option Value} (O : WOk W mg) {k v : Expr} {pos : Pos} {o : Nat} (hu : A.units + 64 < cLine) (hk : Ev W A env G k (key3 o)) (hv : Ev W A env G v (encI 1)) : Ev W A env G (.Dict [some k] [v] pos) (dct [o]) := by
  intro bad s F B Q E hQ
  refine wpAny_Dict_any rfl rfl (by simp) (show 1 ≤ 15 by decide) ?_
  have fr : s.heap.get? s.heap.objs.size = none := by
    cases e : s.heap.get? s.heap.objs.size with
    | none => rfl
    | some o => exact absurd (Heap.lt_size e) (Nat.lt_irrefl _)
  have T₂ : ∀ bad, DG W s.heap.objs.size [] bad (s.heap.push { cls := .type "dict", data := .dict #[] }) := fun bad => DG.new (sm_lt O B.full)
  have u₂ : Up s.heap (s.heap.push { cls := .type "dict", data := .dict #[] }) := Up.push _ _
  have hDb : s.heap.objs.size ∉ bad := F.fresh
  generalize s.heap.push { cls := .type "dict", data := .dict #[] } = h₂ at T₂ u₂ ⊢
  generalize s.heap.objs.size = D at fr T₂ hDb ⊢
  have frs : ∀ b ∈ [D], s.heap.get? b = none := fun b hb => by rw [List.mem_singleton.mp hb]; exact fr
  have F₂ := F.grow (own := [D]) u₂ frs fun b hb => by
    rw [List.mem_singleton.mp hb]; obtain ⟨_, _, ⟨o, _, _, e, _⟩, _⟩ := T₂ []; exact ⟨o, e⟩
  have B₂ := B.move ((cut_add (own := [D]) frs).trans (u₂.keep _).cut)
  show wpAny _ A (evalPairs [(eval k env, do let x ← eval v env; standAt pos; pure x)]) _ _ _
  refine evalPairs_cons (hk _ _ F₂ B₂ _ _ fun vk h₃ tk₃ u₃ r₃ => ?_)
  refine wpAny_bind (hv _ _ (F₂.up u₃) (B₂.up u₃) _ _ fun vv h₄ tk₄ u₄ r₄ => wpAny_bind (wpAny_standAt (wpAny_pure ?_)))
  refine evalPairs_nil ?_
  have T₄ : DG W D [] ([D] ++ bad) h₄ := DG.mv _ _ _ _ (T₂ _) ((u₃.trans u₄).keep _).cut fun o e => u₄ _ _ (u₃ _ _ e)
  obtain ⟨hlt, xs, hd, h2, h3, h4⟩ := id T₄
  obtain ⟨a, rfl, hka⟩ := key_is (prog := W.prog) (w := W.w) (r₃.up (u₄.keep _).cut)
  have hx0 : xs = [] := by cases xs <;> simp_all
  subst hx0
  unfold storeAll
  rw [List.forIn_cons]
  refine wpAny_bind (wpAny_bind (wpAny_dictSet_heap (knd := tupleKind (kS W.prog W.w)) (s := { s with heap := h₄, toks := tk₄ }) (show A.units < cLine by omega) (is_up (cut_up _ _) hka) hd (fun h₅ hd₅ hs₅ => wpAny_pure ?_) (by simp)))
  dsimp only
  rw [List.forIn_nil]
  refine wpAny_pure ?_
  rw [storedH_new (by rfl)] at hd₅
  have hDm : D ∈ [D] ++ bad := List.mem_append.mpr (.inl List.mem_cons_self)
  have kc := (Keep.of_same hDm hs₅).cut
  have T₅ : DG W D [o] ([D] ++ bad) h₅ := ⟨hlt, [(keyOf o, a, vv)], hd₅, rfl, .one ((r₃.up (u₄.keep _).cut).up kc), .one (r₄.up kc)⟩
  refine hQ (.ref D) h₅ _ (fun b q e => (hs₅.2 b fun q' => by rw [q', fr] at e; cases e).trans (u₄ _ _ (u₃ _ _ (u₂ _ _ e)))) (T₅.rp hDb)

/-- several expressions that lean on a state -/
def SpS (W : Wd) (A : Around) (env : Env) (G : Cx) (S : List Addr → Heap → Prop) (es : List Expr) (ds : List PyData) : Prop :=
  ∀ (pos : Pos) (bad : List Addr) (s : Shared) (Q : List Value → Shared → Prop) (E : Value → Shared → Prop), FS env bad G s.heap → Bs W bad s.heap → S bad s.heap → (∀ vs h' tk, Up s.heap h' → Rps (cut h' bad) vs ds → Q vs { s with heap := h', toks := tk }) →
    wpAny (model W.prog W.w) A (spliced (backTo pos (starEach es env))) Q E s
theorem sps_of {es : List Expr} {ds : List PyData} (h : Sp W A env G es ds) : SpS W A env G S es ds := fun pos bad s Q E F B _ hQ => h pos bad s Q E F B hQ
theorem sps_cons {e : Expr} {es : List Expr} {d : PyData} {ds : List PyData} (hS : ∀ bad h h', S bad h → Up h h' → S bad h') (h : EvS W A env G S e d) (k : SpS W A env G S es ds) (he : starEach (e :: es) env = (false, eval e env) :: starEach es env := by rfl) : SpS W A env G S (e :: es) (d :: ds) := by
  intro pos bad s Q E F B T hQ
  refine wpAny_items_cons ?_ he
  refine h bad s F B T _ _ fun v h' tk u r => ?_
  refine k pos bad _ _ E (F.up u) (B.up u) (hS _ _ _ T u) fun vs h'' tk' u' rs => ?_
  exact hQ (v :: vs) h'' tk' (u.trans u') (.cons (r.up (u'.keep _).cut) rs)
theorem evs_callF {x : Str} {p pos : Pos} {f : Addr} {n : Nat} {e : Expr} {es : List Expr} {ds : List PyData} {r : PyData} (g : Gl W env x (.ref f)) (hf : ∀ h, Up W.base h → FnAt f h) (hc : FnC W f n ds r) (rm : Room A n)
    (hs : SpS W A env G S (e :: es) ds) (he : starEach (e :: es) env = (false, eval e env) :: starEach es env := by rfl) (hpl : (backTo pos (starEach es env)).any (·.1) = false := by rfl) (hd : (x == ("__debug__" : Str)) = false := by decide) :
    EvS W A env G S (.Call (.Name x p) (e :: es) [] pos) r := by
  intro bad s F B T Q E hQ
  refine Call_Name rfl (wp_global g B.full ?_ hd)
  refine callWith_F (hf _ B.full) ?_ he hpl
  refine hs pos bad s _ _ F B T fun vs h' tk u rs => ⟨hf _ (B.up u).full, ?_⟩
  rw [List.nil_append]
  exact hc A bad _ vs rm (F.up u).stands (B.up u) rs Q E fun v h'' tk' u' r' => hQ v h'' tk' (u.trans u') r'
/-- calls[one], of the list that may turn -/
theorem evs_item {e i : Expr} {pos : Pos} {a : Addr} {ds : List PyData} {k : Nat} {d : PyData} (h₁ : Ev W A env G e (rawD a)) (h₂ : Ev W A env G i (encI k)) (hfit : k ≤ 4000) (hd : ds[k]? = some d)
    (hs : ∀ o t, subscripted i false (.ref o) (.int (k : Int) t) = operate [.ref o, .int (k : Int) t] (getItem (.ref o) (.int (k : Int) t)) := by intro _ _; with_unfolding_all rfl) :
    EvS W A env G (CL a ds) (.Subscript e i pos) d := by
  intro bad s F B T Q E hQ
  refine Subscript_ (ev_two h₁ h₂ F B fun v₁ v₂ h' tk u r₁ r₂ => ?_)
  cases rp_raw r₁
  obtain ⟨t, rfl⟩ := rp_int r₂
  obtain ⟨vs, n, ea, q₁⟩ := T.up u
  obtain ⟨v, hv, r⟩ := q₁.get hd
  have hl : Heap.IsList h' a vs.toArray := ⟨_, ea, rfl, n, rfl⟩
  exact tail_any (s := { s with heap := h', toks := tk }) (Heap.IsList.typeIs (s := { s with heap := h', toks := tk }) hl) slot_list_getitem.lookup (wpAny_getItem_list (x := v) hl (by omega) (by omega) (by simpa using hv) (hQ v h' tk u r)) (hs a t)
/-- calls[one] = e -/
theorem xt_setL {a : Addr} {ds : List PyData} {k : Nat} {d : PyData} {o i e : Expr} {p pos : Pos} (ha : a ∈ md) (hao : ¬ Own env a) (hk : k < ds.length) (hl : ds.length ≤ 4000) (hv : EvS W A env G (CL a ds) e d) (ho : Ev W A env G o (rawD a)) (hi : Ev W A env G i (encI k))
    (hs : swapsWith e (some (.Subscript o i p)) pos.line env = pure false := by rfl) : XT W A env md G (CL a ds) (.Assign [.Subscript o i p] e pos) G (CL a (ds.set k d)) := by
  intro bad s Q E F T B hm hQ
  refine wpAny_Assign_Subscript (hv bad s F B T _ _ fun v h₁ tk₁ u₁ r₁ => ?_) hs
  refine ho bad _ (F.up u₁) (B.up u₁) _ _ fun va h₂ tk₂ u₂ r₂ => ?_
  refine hi bad _ ((F.up u₁).up u₂) ((B.up u₁).up u₂) _ _ fun vk h₃ tk₃ u₃ r₃ => ?_
  cases rp_raw r₂
  obtain ⟨t, rfl⟩ := rp_int r₃
  have u := (u₁.trans u₂).trans u₃
  obtain ⟨vs, n, ea, q₁⟩ := T.up u
  have hlen := q₁.length
  refine setItem_plain ea (by omega) (by omega) (by simp; omega) fun h₄ n' e4 hs₄ => ?_
  have K4 : Keep [a] h₃ h₄ := Keep.of_same List.mem_cons_self hs₄
  have kc : Keep bad h₃ h₄ := K4.more fun b hb => by rw [List.mem_singleton.mp hb]; exact hm a ha
  refine hQ h₄ tk₃ ((F.up u).off K4 (hm a ha) hao ⟨_, e4⟩) ⟨vs.set k v, n', by rw [e4]; simp, ?_⟩ ((B.up u).keep kc) ((u.keep _).trans (K4.more fun b hb => by rw [List.mem_singleton.mp hb]; exact ha))
  exact (rps_set k q₁ ((r₁.up (u₂.keep _).cut).up (u₃.keep _).cut)).up kc.cut
/-- the list is at rest: its local name is known again -/
theorem FS.settle {bad : List Addr} {h : Heap} {a : Addr} {x : Str} {ds : List PyData} (F : FS env (a :: bad) G h) (hl : env.locals ∈ bad) (hc : ∀ y c, env.cells.lookup y = some c → c ∈ bad) (hx : G.lookup x = some (rawD a)) (hk : env.kindOf x = some .local) (T : CL a ds (a :: bad) h) (hn : a ∉ bad) :
    FS env bad ((x, .list ds) :: G) h := by
  obtain ⟨m, n, r⟩ := F.loc
  obtain ⟨v, e1, e2⟩ := r x _ hx hk
  cases rp_raw e2
  obtain ⟨vs, k, ea, rs⟩ := T
  exact F.revealL hl hc hk n e1 (.list (hideAll_get _ ea hn) (rs.up (cut_less fun b hb => List.mem_cons_of_mem _ hb)))
end
end Mine

namespace Mine
open PySem.Challenge (pw_gf0002_01)

/-- those whom j beat, among the first i -/
def osAt (B : List (Nat × Nat)) (i j : Nat) : List Nat := ((B.take i).filter fun p => p.1 = j).map (·.2)
def callsAt (M : Nat) (B : List (Nat × Nat)) (i : Nat) : List PyData := (List.range M).map fun j => dct (osAt B i j)
theorem callsAt_len {M : Nat} {B : List (Nat × Nat)} {i : Nat} : (callsAt M B i).length = M := by simp [callsAt]
theorem osAt_succ {B : List (Nat × Nat)} {i j : Nat} (hi : i < B.length) : osAt B (i + 1) j = if B[i].1 = j then osAt B i j ++ [B[i].2] else osAt B i j := by
  unfold osAt
  rw [List.take_add_one, List.getElem?_eq_getElem hi, List.filter_append, List.map_append]
  by_cases h : B[i].1 = j <;> simp [h]
theorem callsAt_succ {M : Nat} {B : List (Nat × Nat)} {i : Nat} (hi : i < B.length) (_hb : B[i].1 < M) : callsAt M B (i + 1) = (callsAt M B i).set B[i].1 (dct (osAt B i B[i].1 ++ [B[i].2])) := by
  unfold callsAt
  refine List.ext_getElem? fun j => ?_
  rw [List.getElem?_set, List.getElem?_map, List.getElem?_map]
  by_cases hj : j < M
  · rw [List.getElem?_range hj]
    simp only [Option.map_some, List.length_map, List.length_range]
    by_cases h : B[i].1 = j
    · subst h; rw [osAt_succ hi]; simp [hj]
    · rw [osAt_succ hi, if_neg h, if_neg h]
  · rw [List.getElem?_eq_none (by simpa using hj)]
    simp only [Option.map_none, List.length_map, List.length_range]
    split
    · rename_i h; omega
    · rfl
theorem osAt_nodup {B : List (Nat × Nat)} (hn : B.Nodup) (i j : Nat) : (osAt B i j).Nodup := by
  unfold osAt
  refine List.pairwise_map.mpr (List.Pairwise.imp_of_mem ?_ ((hn.sublist (List.take_sublist i B)).filter fun p => decide (p.1 = j)))
  intro p r hp hr hne h
  have h1 := (List.mem_filter.mp hp).2
  have h2 := (List.mem_filter.mp hr).2
  simp at h1 h2
  exact hne (Prod.ext (h1.trans h2.symm) h)
theorem osAt_new {B : List (Nat × Nat)} (hn : B.Nodup) {i : Nat} (hi : i < B.length) : B[i].2 ∉ osAt B i B[i].1 := by
  intro h
  unfold osAt at h
  obtain ⟨p, hp, e⟩ := List.mem_map.mp h
  have h1 := (List.mem_filter.mp hp).1
  have h2 := (List.mem_filter.mp hp).2
  simp at h2
  have : p = B[i] := Prod.ext h2 e
  rw [this] at h1
  have e := List.take_append_drop i B
  rw [← e, List.drop_eq_getElem_cons hi] at hn
  exact (List.nodup_append.mp hn).2.2 _ h1 _ List.mem_cons_self rfl
theorem osAt_len {B : List (Nat × Nat)} {i j : Nat} (h : B.length ≤ 10) : (osAt B i j).length ≤ 10 := by
  unfold osAt
  rw [List.length_map]
  exact Nat.le_trans (List.length_filter_le _ _) (by rw [List.length_take]; omega)
theorem wins_eq (M : Nat) (B : List (Nat × Nat)) : (callsAt M B B.length) = (List.range M).map (fun j => dct (osAt B B.length j)) ∧ (List.range M).map (fun j => (osAt B B.length j).length) = winsOf M B := by
  refine ⟨rfl, ?_⟩
  unfold winsOf osAt
  congr 1; funext j
  rw [List.length_map, List.take_length]
end Mine

namespace Mine
open PySem.Challenge (pw_gf0002_01)

theorem rp_dct0 {h : Heap} {bad : List Addr} {a : Addr} {n : Nat} {items : Array Value} (ea : h.get? a = some { cls := .type "list", data := .seq items n }) {v : Value} (r : Rp (cut h bad) v (dct [])) : Rp (cut h (a :: bad)) v (dct []) := by
  obtain ⟨b, es, m, rfl, hlt, ec, eb, hb, rk, rv⟩ := rp_dict r (dct_none [])
  refine .dict hlt (dct_none []) (hideAll_get _ eb fun q => ?_) ?_ ?_
  · rcases List.mem_cons.mp q with rfl | q
    · have eb' : h.get? b = some _ := eb
      rw [ea] at eb'
      exact absurd (congrArg Obj.cls (Option.some.inj eb')) (by simp)
    · exact hb q
  · have := rk.length
    simp at this
    subst this
    exact .nil
  · have := rv.length
    simp at this
    subst this
    exact .nil
theorem rps_dct0 {h : Heap} {bad : List Addr} {a : Addr} {n : Nat} {items : Array Value} (ea : h.get? a = some { cls := .type "list", data := .seq items n }) {α : Type} : ∀ {xs : List α} {vs : List Value}, Rps (cut h bad) vs (xs.map fun _ => dct []) → Rps (cut h (a :: bad)) vs (xs.map fun _ => dct [])
  | [], vs, r => by cases r; exact .nil
  | x :: xs, vs, r => by
    cases r with
    | cons r1 r => exact .cons (rp_dct0 ea r1) (rps_dct0 ea r)

set_option maxHeartbeats 2000000 in
theorem law_3 {W : Wd} {A : Around} {mg : Str → Option Value} {L f : Addr} {q : Str} {cd : Value} {M f₁ f₂ : Nat} {cd₁ cd₂ : Value} {pr Bt : List (Nat × Nat)} {q₁ q₂ : Str} {bad md : List Addr} {s : Shared} {Q : Flow → Shared → Prop} {E : Value → Shared → Prop} (O : WOk W mg) (rm : Room A 12) (hM : M ≤ 5)
    (hBl : Bt.length ≤ 10) (hBn : Bt.Nodup) (hBb : ∀ p ∈ Bt, p.1 < M ∧ p.2 < M)
    (I₁ : FnP W 1 f₁ q₁ cd₁) (I₂ : FnP W 2 f₂ q₂ cd₂) (g₁ : mg "add_callers" = some (.ref f₁)) (g₂ : mg "count_calls" = some (.ref f₂)) (h4 : mg "list" = none) (h5 : mg "range" = none)
    (hO : OwnIn (envOfC q (defAt pw_gf0002_01 9).2.2 L f cd) md) 
    (F : FS (envOfC q (defAt pw_gf0002_01 9).2.2 L f cd) bad [("beat", .list (Bt.map encP)), ("pairs", .list (pr.map encP)), ("many", encI M)] s.heap) (B : Bs W bad s.heap) (hm : ∀ b ∈ md, b ∈ bad)
    (k : ∀ h' tk, FS (envOfC q (defAt pw_gf0002_01 9).2.2 L f cd) bad [("wins", encL (winsOf M Bt)), ("players", encL (List.range M)), ("beat", .list (Bt.map encP)), ("pairs", .list (pr.map encP)), ("many", encI M)] h' → Bs W bad h' → Keep md s.heap h' →
      wpAny (model W.prog W.w) A (execs ((defAt pw_gf0002_01 9).2.1.drop 9) (envOfC q (defAt pw_gf0002_01 9).2.2 L f cd)) Q E { s with heap := h', toks := tk }) :
    wpAny (model W.prog W.w) A (execs ((defAt pw_gf0002_01 9).2.1.drop 6) (envOfC q (defAt pw_gf0002_01 9).2.2 L f cd)) Q E s := by
  have hA := rm.hd
  revert hO F k
  have e := (rfl : defAt pw_gf0002_01 9 = defAt pw_gf0002_01 9)
  conv at e => rhs; whnf
  rw [e]; clear e
  dsimp only
  intro hO F k
  refine wpAny_execs_cons (Assign_Tuple_swapped (names := ["players", "calls"]) ?_)
  have rng : (List.range M).map (fun i : Nat => PyData.int (i : Int)) = (List.range M).map encI := rfl
  refine wpAny_Tuple (wpAny_items_cons (use_ev (d := encL (List.range M)) (ev_list_range (n := M) hA (gl_b O h4 rfl) (gl_b O h5 rfl) evn (by omega)) F B fun v₁ h₁ tk₁ u₁ r₁ => ?_) rfl)
  have F₁ := F.up u₁
  have B₁ := B.up u₁
  refine wpAny_items_cons (wp_compF (xs := List.range M) (enc := encI) (outs := fun _ => [dct []]) rfl (by intro g h; cases h) (er1 hA (gl_b O h5 rfl) evn (by omega)) (fun _ _ _ _ => asc) (fun _ _ => fgn) (fun C D x hx => body0 (rl (eDict0 O))) ?_ F₁ B₁ fun a h₂ tk₂ u₂ fa r₂ => ?_) rfl
  · rw [flatMap_one, List.length_map, List.length_range]; exact le_line (by omega)
  refine wpAny_items_nil ⟨le_line (show 2 ≤ 4000 by decide), ?_⟩
  rw [flatMap_one] at r₂
  obtain ⟨a', ws, n, ea', ec, ea, hab, rs⟩ := rp_list r₂
  cases ea'
  dsimp only
  have fs : s.heap.get? a = none := by
    cases e : s.heap.get? a with
    | none => rfl
    | some o => rw [u₁ _ _ e] at fa; cases fa
  have ht : IsTup (h₂.push { cls := .type "tuple", data := .seq [v₁, Value.ref a].toArray }) h₂.objs.size #[v₁, .ref a] := ⟨_, Heap.get?_push_size _ rfl, rfl, _, rfl⟩
  have u₃ : Up h₂ (h₂.push { cls := .type "tuple", data := .seq [v₁, Value.ref a].toArray }) := Up.push _ _
  generalize hH : h₂.push { cls := .type "tuple", data := .seq [v₁, Value.ref a].toArray } = H₃ at ht u₃
  generalize h₂.objs.size = t at ht
  have hlen2 : [Str.ofString "players", Str.ofString "calls"].length = (#[v₁, Value.ref a] : Array Value).size := rfl
  rw [hlen2]
  refine unpackItems_tuple (s := { s with heap := H₃, toks := tk₂ }) (items := #[v₁, Value.ref a]) hA ht fun h₄ he₄ => ?_
  have u₄ : Up H₃ h₄ := fun b o e => he₄ b o (Nat.ne_of_lt (Heap.lt_size e)) e
  have u14 : Up h₁ h₄ := (u₂.trans u₃).trans u₄
  have frs : ∀ b ∈ [a], h₁.get? b = none := fun b hb => by rw [List.mem_singleton.mp hb]; exact fa
  have ea4 := u₄ _ _ (u₃ _ _ ea)
  have F₄ := F₁.grow (own := [a]) u14 frs fun b hb => by rw [List.mem_singleton.mp hb]; exact ⟨_, ea4⟩
  have uc : Up (cut h₁ bad) (cut h₄ ([a] ++ bad)) := (cut_add (own := [a]) frs).trans (u14.keep _).cut
  have B₄ := B₁.move uc
  have T₄ : CL a (callsAt M Bt 0) ([a] ++ bad) h₄ := ⟨ws, n, ea4, (rps_dct0 ea rs).up ((u₃.trans u₄).keep _).cut⟩
  have hOwn1 : ∀ b, Own _ b → b ≠ a := fun b hb q => by
    obtain ⟨o, e⟩ := F₁.stands b (F₁.ownBad hb)
    rw [q, fa] at e; cases e
  have hao : ¬ Own _ a := fun q => hOwn1 a q rfl
  have hmb : ∀ b ∈ a :: md, b ∈ [a] ++ bad := fun b hb => by
    rcases List.mem_cons.mp hb with rfl | hb
    · exact List.mem_append.mpr (.inl List.mem_cons_self)
    · exact List.mem_append.mpr (.inr (hm b hb))
  show wpAny _ A (assignInOrder [bindName _ "calls", bindName _ "players"] [.ref a, v₁]) _ _ _
  rw [assignInOrder]
  refine wpAny_bind (wpAny_holding (wpAny_bindName (F₄.store rfl (.inl rfl) (.raw a) fun h₅ tk₅ b₅ F₅ hs₅ hb₅ => ?_)))
  rw [assignInOrder]
  have ho₅ : Own _ b₅ := hb₅.elim .inl fun q => .inr ⟨_, q.2⟩
  have K₅ : Keep ([a] ++ bad) h₄ h₅ := Keep.of_same (F₄.ownBad ho₅) hs₅
  refine wpAny_bind (wpAny_holding (wpAny_bindName (F₅.store rfl (.inl rfl) ((r₁.up uc).up K₅.cut) fun h₆ tk₆ b₆ F₆ hs₆ hb₆ => ?_)))
  have ho₆ : Own _ b₆ := hb₆.elim .inl fun q => .inr ⟨_, q.2⟩
  have K₆ : Keep ([a] ++ bad) h₅ h₆ := Keep.of_same (F₅.ownBad ho₆) hs₆
  show wpAny _ A (pure ()) _ _ _
  refine wpAny_pure ?_
  have T₆ : CL a (callsAt M Bt 0) ([a] ++ bad) h₆ := CL.mv _ _ _ _ T₄ (K₅.trans K₆).cut fun o e => (hs₆.2 a (hOwn1 _ ho₆).symm).trans ((hs₅.2 a (hOwn1 _ ho₅).symm).trans e)
  have B₆ := B₄.keep (K₅.trans K₆)
  have hO' : OwnIn _ (a :: md) := ⟨List.mem_cons_of_mem _ hO.l, fun y c e => List.mem_cons_of_mem _ (hO.c y c e)⟩
  refine use_xt (md := a :: md) (xt_for (Gi := fun _ => [("calls", rawD a), ("players", encL (List.range M)), ("beat", .list (Bt.map encP)), ("pairs", .list (pr.map encP)), ("many", encI M)])
    (Gi' := fun i => [("other", encI (Bt.getD i (0, 0)).2), ("one", encI (Bt.getD i (0, 0)).1), ("calls", rawD a), ("players", encL (List.range M)), ("beat", .list (Bt.map encP)), ("pairs", .list (pr.map encP)), ("many", encI M)])
    (T := fun i => CL a (callsAt M Bt i)) (D := a) (fun _ => CL.mv) List.mem_cons_self (.inl hao) (evi_list (ds := Bt.map encP) hA evn) (sub_cons (sub_cons (sub_cons (sub_cons (sub_cons sub_nil))))) (fun i d hd => ?_) (fun i d hd => ?_)) F₆ T₆ B₆ hmb fun h₇ tk₇ F₇ T₇ B₇ K₇ => ?_
  · obtain ⟨hi, rfl⟩ := xs_at hd
    have : Bt[i] = Bt.getD i (0, 0) := by rw [List.getD_eq_getElem?_getD, List.getElem?_eq_getElem hi]; rfl
    rw [this]
    exact asl2 hA hO'
  · obtain ⟨hi, rfl⟩ := xs_at hd
    have : Bt.getD i (0, 0) = Bt[i] := by rw [List.getD_eq_getElem?_getD, List.getElem?_eq_getElem hi]; rfl
    rw [this]
    obtain ⟨hb1, hb2⟩ := hBb _ (List.getElem_mem hi)
    rw [callsAt_succ hi hb1]
    have hget : (callsAt M Bt i)[Bt[i].1]? = some (dct (osAt Bt i Bt[i].1)) := by
      unfold callsAt
      rw [List.getElem?_map, List.getElem?_range hb1]; rfl
    refine (xts_cons (xt_setL List.mem_cons_self hao (by rw [callsAt_len]; exact hb1) (by rw [callsAt_len]; omega) (evs_callF (n := 1) (gl_f O g₁) (fun h => fnAt_of I₁) (add_ok O I₁ (osAt Bt i Bt[i].1) Bt[i].2 (osAt_nodup hBn i _) (osAt_new hBn hi) (Nat.le_trans (osAt_len hBl) (by decide))) (rm.less (by omega))
      (sps_cons (fun _ _ _ S u => S.up u) (evs_item evn evn (by omega) hget) (sps_of (sp_cons (eDict1 O rm.u64 (ev_tuple (sp_cons ev_str (sp_cons evn (sp_cons ev_str sp_nil))) (le_line (show 3 ≤ 4000 by decide))) ev_int) sp_nil)))) evn evn) xts_nil).say (sub_cons (sub_cons (sub_cons (sub_cons (sub_cons sub_nil)))))
  have el7 : (Bt.map encP).length = Bt.length := List.length_map ..
  rw [el7] at T₇
  have hnb : a ∉ bad := fun q => by
    obtain ⟨o, e⟩ := F₁.stands _ q
    rw [fa] at e; cases e
  have F₈ := F₇.settle F₁.lbad (fun y c e => (F₁.cbad y c e).1) (x := "calls") rfl rfl T₇ hnb
  have B₈ := B₇.move (cut_less (bad := bad) (bad' := [a] ++ bad) fun b hb => List.mem_append.mpr (.inr hb))
  refine use_x (xa hO (d := encL (winsOf M Bt)) ?_) F₈ B₈ hm fun h₉ tk₉ F₉ B₉ K₉ => ?_
  · rw [← (wins_eq M Bt).2]
    exact ecM (List.range M) (fun j => dct (osAt Bt Bt.length j)) (fun j => (osAt Bt Bt.length j).length) encI (evi_list hA evn) (by simp; omega) (fun C j hj => ev_callF (n := 1) (gl_f O g₂) (fun h => fnAt_of I₂) (count_ok O I₂ (osAt Bt Bt.length j)) (rm.less (by omega)) (sp_cons evn sp_nil))
  · refine k h₉ tk₉ (F₉.say (sub_cons (sub_cons (sub_cons (sub_cons (sub_cons sub_nil)))))) B₉ fun b o hb e => ?_
    have hba : b ∉ a :: md := fun q => by
      rcases List.mem_cons.mp q with q | q
      · rw [q, fs] at e; cases e
      · exact hb q
    have hmem : ∀ c, Own _ c → c ∈ md := fun c hc => hc.elim (fun q => q ▸ hO.l) fun ⟨y, q⟩ => hO.c y c q
    have n5 : b ≠ b₅ := fun q => hb (q ▸ hmem _ ho₅)
    have n6 : b ≠ b₆ := fun q => hb (q ▸ hmem _ ho₆)
    exact K₉ b o hb (K₇ b o hba ((hs₆.2 b n6).trans ((hs₅.2 b n5).trans (u14 _ _ (u₁ _ _ e)))))
end Mine

namespace Mine
theorem lk_list_keys : typeLookup (.type "list") "keys" = pure none := by rw [typeLookup_type, builtinLookup_eq_fast]; kernel_rfl
theorem keys_none {prog : Program} {w : World} {A : Around} {E : Value → Shared → Prop} {s : Shared} {a : Addr} {xs : Array Value} {n : Nat} {Q : Option Value → Shared → Prop} (hA : A.handled = none) (hx : s.heap.get? a = some { cls := .type "list", data := .seq xs n })
    (h : ∀ h' tk, Up s.heap h' → Q none { s with heap := h', toks := tk }) : wpAny (model prog w) A (getAttr? (.ref a) "keys") Q E s := by
  obtain ⟨hp, g, d, tk, os⟩ := s
  have hT : ∀ tk', (⟨hp, g, d, tk', os⟩ : Shared).TypeIs (.ref a) "list" := fun _ => ⟨_, hx, rfl⟩
  have f1 := sub_AttributeError
  have f3 := F.slot_list_getattribute.lookup
  have f4 := F.slot_list_getattribute.bind (.ref a)
  have f5 := am_list_getattr_none
  unfold getAttr? getAttrBy? getAttrBy
  repeat (any_goals (first | assumption | exact hT _ | ((with_reducible show wpAny _ _ (call (Value.builtin "list.__getattribute__") _ _) _ _ _); refine call_meets F.slot_list_getattribute (hT _) am_entry_list_getattribute (F.args_list_getattribute_2 _ _) (meets_getattribute_miss_list a xs n #[] "keys" _ lk_list_keys (by decide) (by decide)) ⟨hx, hA, fun h' tk' e hx' => ?_⟩) | wp_step))
  obtain ⟨t', u', he⟩ := hx'.there
  show wpAny _ _ (getattributeRaised _ _ _ _ _ _ _) _ _ _
  unfold getattributeRaised
  repeat (any_goals (first | assumption | wp_step))
  exact h _ _ hx'.keeps

theorem entry_upd : entryFor table "dict.update.loop" = some Builtin.«dict.update.loop» := entryFor_of_tree (by kernel_rfl)
theorem plain_upd : plainId "dict.update.loop" = true := by decide +kernel

/-- the keys, each once, as they come -/
def ddStep (ks : List Int) (c : Nat) : List Int := if (c : Int) ∈ ks then ks else ks ++ [(c : Int)]
def ddk (ws : List Nat) : List Int := ws.foldl ddStep []
theorem ddk_succ {ws : List Nat} {i : Nat} (h : i < ws.length) : ddk (ws.take (i + 1)) = ddStep (ddk (ws.take i)) ws[i] := by
  unfold ddk
  rw [List.take_add_one, List.getElem?_eq_getElem h, List.foldl_append]; rfl
theorem stored_keys {kvs : List (Int × Value)} {c : Nat} {v : Value} : (stored kvs (c : Int) v).map (·.1) = ddStep (kvs.map (·.1)) c := by
  unfold stored ddStep
  by_cases h : (c : Int) ∈ kvs.map (·.1)
  · have h' : (kvs.any fun kv => decide (kv.1 = (c : Int))) = true := by
      obtain ⟨p, hp, e⟩ := List.mem_map.mp h
      exact List.any_eq_true.mpr ⟨p, hp, by simpa using e⟩
    rw [if_pos h', if_pos h, List.map_map]
    apply List.map_congr_left
    intro p _
    by_cases e : p.1 = (c : Int) <;> simp [e]
  · have h' : ¬ (kvs.any fun kv => decide (kv.1 = (c : Int))) = true := fun q => by
      obtain ⟨p, hp, e⟩ := List.any_eq_true.mp q
      exact h (List.mem_map.mpr ⟨p, hp, by simpa using e⟩)
    rw [if_neg h', if_neg h, List.map_append]; rfl
theorem dd_mem : ∀ (ws : List Nat) (ks : List Int), ks.Nodup → (ws.foldl ddStep ks).Nodup ∧ ∀ x, x ∈ ws.foldl ddStep ks ↔ x ∈ ks ∨ ∃ w ∈ ws, x = (w : Int)
  | [], ks, h => ⟨h, fun x => by simp⟩
  | w :: ws, ks, h => by
    have hs : (ddStep ks w).Nodup ∧ ∀ x, x ∈ ddStep ks w ↔ x ∈ ks ∨ x = (w : Int) := by
      unfold ddStep
      by_cases hw : (w : Int) ∈ ks
      · rw [if_pos hw]
        refine ⟨h, fun x => ⟨.inl, fun q => q.elim id fun e => e ▸ hw⟩⟩
      · rw [if_neg hw]
        refine ⟨List.nodup_append.mpr ⟨h, by simp, fun a ha b hb => ?_⟩, fun x => by simp⟩
        rw [List.mem_singleton.mp hb]
        exact fun q => hw (q ▸ ha)
    obtain ⟨h1, h2⟩ := dd_mem ws _ hs.1
    rw [List.foldl_cons]
    refine ⟨h1, fun x => ?_⟩
    rw [h2, hs.2]
    simp only [List.mem_cons]
    constructor
    · rintro ((q | q) | ⟨w', hw', q⟩)
      · exact .inl q
      · exact .inr ⟨w, .inl rfl, q⟩
      · exact .inr ⟨w', .inr hw', q⟩
    · rintro (q | ⟨w', rfl | hw', q⟩)
      · exact .inl (.inl q)
      · exact .inl (.inr q)
      · exact .inr ⟨w', hw', q⟩
theorem nodup_le {α : Type} [DecidableEq α] : ∀ (l l' : List α), l.Nodup → (∀ x ∈ l, x ∈ l') → l.length ≤ l'.length
  | [], _, _, _ => Nat.zero_le _
  | x :: l, l', h, hs => by
    rw [List.nodup_cons] at h
    have hx := hs x List.mem_cons_self
    have := nodup_le l (l'.erase x) h.2 fun y hy => (List.mem_erase_of_ne (by rintro rfl; exact h.1 hy)).mpr (hs y (List.mem_cons_of_mem _ hy))
    rw [List.length_erase_of_mem hx] at this
    have := List.length_pos_of_mem hx
    rw [List.length_cons]; omega
theorem distinct_mem : ∀ ws : List Nat, (distinct ws).Nodup ∧ ∀ x, x ∈ distinct ws ↔ x ∈ ws
  | [] => ⟨List.nodup_nil, fun x => by simp [distinct]⟩
  | w :: ws => by
    obtain ⟨h1, h2⟩ := distinct_mem ws
    unfold distinct
    by_cases h : w ∈ distinct ws
    · rw [if_pos h]
      refine ⟨h1, fun x => ?_⟩
      rw [h2, List.mem_cons]
      exact ⟨.inr, fun q => q.elim (fun e => by rw [e]; exact (h2 w).mp h) id⟩
    · rw [if_neg h]
      refine ⟨List.nodup_cons.mpr ⟨h, h1⟩, fun x => ?_⟩
      rw [List.mem_cons, List.mem_cons, h2]
theorem ddk_len (ws : List Nat) : (ddk ws).length = (distinct ws).length := by
  obtain ⟨a1, a2⟩ := dd_mem ws [] List.nodup_nil
  obtain ⟨b1, b2⟩ := distinct_mem ws
  have c1 : ((distinct ws).map fun w : Nat => (w : Int)).Nodup := List.pairwise_map.mpr (b1.imp fun h q => h (Int.ofNat.inj q))
  have c2 : ((distinct ws).map fun w : Nat => (w : Int)).length = (distinct ws).length := List.length_map ..
  apply Nat.le_antisymm
  · rw [← c2]
    refine nodup_le _ _ a1 fun x hx => ?_
    rcases (a2 x).mp hx with q | ⟨w, hw, rfl⟩
    · exact nomatch q
    · exact List.mem_map.mpr ⟨w, (b2 w).mpr hw, rfl⟩
  · rw [← c2]
    refine nodup_le _ _ c1 fun x hx => ?_
    obtain ⟨w, hw, rfl⟩ := List.mem_map.mp hx
    exact (a2 _).mpr (.inr ⟨w, (b2 w).mp hw, rfl⟩)
theorem ddk_le (ws : List Nat) : (ddk ws).length ≤ ws.length := by
  rw [ddk_len]
  have : ∀ ws : List Nat, (distinct ws).length ≤ ws.length := by
    intro ws
    induction ws with
    | nil => exact Nat.le_refl _
    | cons w ws ih => unfold distinct; split <;> simp <;> omega
  exact this ws

theorem upd_loop {prog : Program} {w : World} {A : Around} (hA : A.handled = none) {ws : List Nat} {l I D : Addr} {vs : List Value} (hws : ws.length ≤ 10) (hID : I ≠ D) (hlI : l ≠ I) (hlD : l ≠ D) :
    ∀ (k i : Nat) (s : Shared) (R : Result → Shared → Prop) (kvs : List (Int × Value)) (bad : List Addr), ws.length - i = k → i ≤ ws.length → I ∈ bad → D ∈ bad → s.heap.IsListIter I l i → s.heap.IsList l vs.toArray → Rps (cut s.heap bad) vs (ws.map fun c => .tuple [encI c, encI 1]) → s.heap.DictOf (intKind prog w) D kvs → kvs.map (·.1) = ddk (ws.take i) →
      (∀ h' tk kvs', (∀ b o, b ≠ I → b ≠ D → s.heap.get? b = some o → h'.get? b = some o) → h'.DictOf (intKind prog w) D kvs' → kvs'.map (·.1) = ddk ws → R (.ok (.ret .none)) { s with heap := h', toks := tk }) →
      codeAny (model prog w) A (.builtin "dict.update.loop" ⟨[.ref D, .ref I, rawInt (i : Int), .none], []⟩) R s := by
  intro k
  induction k with
  | zero =>
    intro i s R kvs bad hk hi hIb hDb hit hl rs hd hkv hR
    have hin : i = ws.length := by omega
    subst hin
    have hlen := rs.length
    rw [List.length_map] at hlen
    refine codeAny_builtin entry_upd ?_
    rw [Around.under_plainId plain_upd _]
    show wpAny _ A.in1 (pyNext (.ref I) >>= _) _ _ s
    refine wpAny_bind (wpAny_pyNext_list_end (A := A.in1) hA hit hl (by simp [hlen]) fun h' he => ?_)
    show wpAny _ A.in1 (Builtin.Dict.addKeywords D [] >>= _) _ _ _
    refine wpAny_bind ?_
    unfold Builtin.Dict.addKeywords
    rw [List.forIn_nil]
    refine wpAny_pure ?_
    show wpAny _ A.in1 (ret Value.none) _ _ _
    refine wpAny_pure (hR h' s.toks kvs (fun b o hb _ e => he b o hb e) ?_ (by rw [hkv, List.take_of_length_le (Nat.le_refl _)]))
    obtain ⟨o, es, ep, e, r⟩ := hd
    exact ⟨o, es, ep, he D o hID.symm e, r⟩
  | succ k ih =>
    intro i s R kvs bad hk hi hIb hDb hit hl rs hd hkv hR
    have hlt : i < ws.length := by omega
    obtain ⟨v, hv, rv⟩ := rs.get (k := i) (d := .tuple [encI ws[i], encI 1]) (by rw [List.getElem?_map, List.getElem?_eq_getElem hlt]; rfl)
    refine codeAny_builtin entry_upd ?_
    rw [Around.under_plainId plain_upd _]
    show wpAny _ A.in1 (pyNext (.ref I) >>= _) _ _ s
    refine wpAny_bind (wpAny_pyNext_list_item (A := A.in1) hit hl (x := v) (by simpa using hv) fun h₁ hit₁ hs₁ => ?_)
    obtain ⟨t, us, n, rfl, _, et, htb, ru⟩ := rp_tuple rv
    have htI : t ≠ I := fun q => htb (q ▸ hIb)
    have htD : t ≠ D := fun q => htb (q ▸ hDb)
    have et₁ := (hs₁.2 t htI).trans et
    cases ru with
    | cons r1 ru =>
    cases ru with
    | cons r2 ru =>
    cases ru
    obtain ⟨tc, rfl⟩ := rp_int r1
    obtain ⟨tv, rfl⟩ := rp_int r2
    have hd₁ : h₁.DictOf (intKind prog w) D kvs := by
      obtain ⟨o, es, ep, e, r⟩ := hd
      exact ⟨o, es, ep, (hs₁.2 D hID.symm).trans e, r⟩
    have hl₁ : h₁.IsList l vs.toArray := by
      obtain ⟨o, e, r⟩ := hl
      exact ⟨o, (hs₁.2 l hlI).trans e, r⟩
    have hklen : kvs.length ≤ 10 := by
      have e1 := congrArg List.length hkv
      rw [List.length_map] at e1
      have := ddk_le (ws.take i)
      rw [List.length_take] at this
      omega
    have hTt : Shared.TypeIs { s with heap := h₁ } (.ref t) "tuple" := ⟨_, et₁, rfl⟩
    refine wpAny_bind (wpAny_holding (wpAny_bind (wpAny_tryCatch ?_)))
    unfold Builtin.Dict.pairItems
    refine wpAny_bind (wpAny_typeOf hTt ?_)
    rw [if_pos (by decide)]
    refine wpAny_bind ?_
    unfold seqItems?
    refine wpAny_bind (wpAny_load et₁ (wpAny_pure (wpAny_pure ?_)))
    show wpAny _ A.in1 (holding [_, _] (dictSet D _ _)) _ _ _
    refine wpAny_holding (wpAny_dictSet_pairs (knd := intKind prog w) (k := ((ws[i] : Nat) : Int)) (by simp [intKind, Value.isInt]) hd₁ (fun h₂ hd₂ hs₂ => ?_) (le_line (by omega)))
    refine wpAny_pure ⟨plainId_quiet plain_upd _, ?_⟩
    have e1 : rawInt ((i : Int) + 1) = rawInt ((i + 1 : Nat) : Int) := by congr 1
    show codeAny _ A (.builtin "dict.update.loop" ⟨[.ref D, .ref I, rawInt ((i : Int) + 1), .none], []⟩) R _
    rw [e1]
    have k1 : ∀ b o, b ≠ I → b ≠ D → s.heap.get? b = some o → h₂.get? b = some o := fun b o h1 h2 e => (hs₂.2 b h2).trans ((hs₁.2 b h1).trans e)
    have kc : Keep bad s.heap h₂ := fun b o hb e => k1 b o (fun q => hb (q ▸ hIb)) (fun q => hb (q ▸ hDb)) e
    refine ih (i + 1) _ R (stored kvs ((ws[i] : Nat) : Int) (.int ((1 : Nat) : Int) tv)) bad (by omega) hlt hIb hDb (hit₁.at fun o e => (hs₂.2 I hID).trans e) ?_ (rs.up kc.cut) hd₂ (by rw [stored_keys, hkv, ddk_succ hlt]) fun h' tk kvs' kk hd' hk' => ?_
    · obtain ⟨o, e, r⟩ := hl₁
      exact ⟨o, (hs₂.2 l hlD).trans e, r⟩
    · exact hR h' tk kvs' (fun b o h1 h2 e => kk b o h1 h2 (k1 b o h1 h2 e)) hd' hk'
end Mine

namespace Mine
theorem call_dict_pairs {prog : Program} {w : World} {A : Around} {E : Value → Shared → Prop} {s : Shared} {l : Addr} {vs : List Value} {n : Nat} {ws : List Nat} {bad : List Addr} {Q : Value → Shared → Prop} (hA : A.handled = none) (hws : ws.length ≤ 10) (hsm : sysModules < s.heap.objs.size)
    (hl : s.heap.get? l = some { cls := .type "list", data := .seq vs.toArray n }) (rs : Rps (cut s.heap bad) vs (ws.map fun c => .tuple [encI c, encI 1]))
    (h : ∀ D h' tk kvs, Up s.heap h' → sysModules < D → h'.DictOf (intKind prog w) D kvs → kvs.length = (distinct ws).length → Q (.ref D) { s with heap := h', toks := tk }) :
    wpAny (model prog w) A (call (.type "dict") [.ref l]) Q E s := by
  have fresh : ∀ b, s.heap.objs.size ≤ b → s.heap.get? b = none := fun b hb => by
    cases e : s.heap.get? b with
    | none => rfl
    | some o => exact absurd (Heap.lt_size e) (Nat.not_lt.mpr hb)
  refine callType_codes (Q₁ := fun obj s₁ => obj = .ref s.heap.objs.size ∧ s₁ = { s with heap := s.heap.push { cls := .type "dict", data := .dict #[] } }) F.kt_called_dict (F.kt_typeCall_dict_1 _) F.entry_dict_init (kt_code_dict_new _ ⟨rfl, rfl⟩) ?_
  rintro obj s₁ ⟨rfl, rfl⟩
  have hnew : (s.heap.push { cls := .type "dict", data := .dict #[] }).DictOf (intKind prog w) s.heap.objs.size [] := Heap.DictOf.new s.heap
  have fD := fresh s.heap.objs.size (Nat.le_refl _)
  have u₁ : Up s.heap (s.heap.push { cls := .type "dict", data := .dict #[] }) := Up.push _ _
  have hsz1 : s.heap.objs.size < (s.heap.push { cls := .type "dict", data := .dict #[] }).objs.size := by rw [Heap.size_push]; exact Nat.lt_succ_self _
  have hTn := hnew.typeIs (s := { s with heap := s.heap.push { cls := .type "dict", data := .dict #[] } })
  refine ⟨hTn, F.args_dict_init_2 _ _, ?_⟩
  unfold Builtin.«dict.__init__»
  refine wpAny_bind ?_
  unfold Builtin.Dict.selfAndRest
  refine wpAny_bind (wpAny_notOrdered_dict hTn ?_)
  show wpAny _ _ (pure (s.heap.objs.size, [Value.ref l])) _ _ _
  refine wpAny_pure ?_
  show wpAny _ _ (Builtin.Dict.updateFrom "dict.__init__" s.heap.objs.size (.ref l) [] .none) _ _ _
  generalize s.heap.objs.size = D at *
  generalize s.heap.push { cls := .type "dict", data := .dict #[] } = H₁ at *
  have el₁ := u₁ _ _ hl
  unfold Builtin.Dict.updateFrom
  refine wpAny_bind (wpAny_typeOf (T := "list") (s := { s with heap := H₁ }) ⟨_, el₁, rfl⟩ ?_)
  rw [if_pos (by decide)]
  refine wpAny_bind (keys_none (A := A.in1.in1) (s := { s with heap := H₁ }) hA el₁ fun h₂ tk₂ u₂ => ?_)
  rw [if_pos (show (Option.none : Option Value).isNone = true from rfl)]
  refine wpAny_bind (wpAny_rule (wpAny_bind ?_))
  have el₂ := u₂ _ _ el₁
  refine wpAny_pyIter_list (s := { s with heap := h₂, toks := tk₂ }) ⟨_, el₂, rfl, n, rfl⟩ ?_
  have hD₂ : h₂.DictOf (intKind prog w) D [] := by
    obtain ⟨o, es, ep, e, r⟩ := hnew
    exact ⟨o, es, ep, u₂ _ _ e, r⟩
  have f2 : ∀ b o, s.heap.get? b = some o → h₂.get? b = some o := fun b o e => u₂ _ _ (u₁ _ _ e)
  have hDlt : D < h₂.objs.size := by obtain ⟨o, es, ep, e, _⟩ := hD₂; exact Heap.lt_size e
  have hllt : l < h₂.objs.size := Heap.lt_size el₂
  have hlD : l ≠ D := fun q => by rw [q, fD] at hl; cases hl
  dsimp only
  generalize hH : h₂.push { cls := .type "list_iterator", data := .fields #[.ref l, .int 0 0] } = H₃
  have u₃ : Up h₂ H₃ := by rw [← hH]; exact Up.push _ _
  have fI : s.heap.get? h₂.objs.size = none := by
    cases e : s.heap.get? h₂.objs.size with
    | none => rfl
    | some o => exact absurd (Heap.lt_size (f2 _ _ e)) (Nat.lt_irrefl _)
  have hit : H₃.IsListIter h₂.objs.size l 0 := by rw [← hH]; exact ⟨_, Heap.get?_push_size _ rfl, rfl, rfl⟩
  generalize h₂.objs.size = I at hit hDlt hllt fI
  refine wpAny_pure ⟨plainId_quiet plain_upd _, ?_⟩
  have rs' : Rps (cut H₃ [I, D]) vs (ws.map fun c => .tuple [encI c, encI 1]) := rs.up fun b o e => by
    have e1 := (cut_get e).1
    refine hideAll_get _ (u₃ _ _ (f2 _ _ e1)) fun q => ?_
    simp only [List.mem_cons, List.not_mem_nil, or_false] at q
    rcases q with rfl | rfl
    · rw [fI] at e1; cases e1
    · rw [fD] at e1; cases e1
  refine upd_loop (A := A.in1) hA hws (Nat.ne_of_gt hDlt) (Nat.ne_of_lt hllt) hlD ws.length 0 _ _ [] [I, D] (by omega) (Nat.zero_le _) List.mem_cons_self (List.mem_cons_of_mem _ List.mem_cons_self) hit ⟨_, u₃ _ _ el₂, rfl, n, rfl⟩ rs' ?_ rfl fun h' tk kvs k hd' hk' => ?_
  · obtain ⟨o, es, ep, e, r⟩ := hD₂
    exact ⟨o, es, ep, u₃ _ _ e, r⟩
  · refine ⟨rfl, h D h' tk kvs (fun b o e => k b o (fun q => by rw [q, fI] at e; cases e) (fun q => by rw [q, fD] at e; cases e) (u₃ _ _ (f2 _ _ e))) hsm hd' ?_⟩
    rw [← ddk_len, ← hk', List.length_map]

section
variable {W : Wd} {A : Around} {env : Env} {G : Cx}
/-- len(dict(ps)), of pairs whose keys are ints -/
theorem eLenDict {mg : Str → Option Value} (O : WOk W mg) {x y : Str} {p p' pos pos' : Pos} {e : Expr} {ws : List Nat} (hA : A.handled = none) (g : Gl W env x (.builtin "len")) (g' : Gl W env y (.type "dict")) (h : Ev W A env G e (.list (ws.map fun c => .tuple [encI c, encI 1]))) (hl : ws.length ≤ 10)
    (he : starEach [e] env = [(false, eval e env)] := by rfl) (he' : starEach [.Call (.Name y p') [e] [] pos'] env = [(false, eval (.Call (.Name y p') [e] [] pos') env)] := by rfl) (hd : (x == ("__debug__" : Str)) = false := by decide) (hd' : (y == ("__debug__" : Str)) = false := by decide) :
    Ev W A env G (.Call (.Name x p) [.Call (.Name y p') [e] [] pos'] [] pos) (encI (distinct ws).length) := by
  intro bad s F B Q E hQ
  refine Call_Name rfl (wp_global g B.full ?_ hd)
  refine callWith_builtin (by rw [he']; rfl) ?_
  have hh : wpAny (model W.prog W.w) A (spliced (backTo pos (starEach [.Call (.Name y p') [e] [] pos'] env))) (fun vs s' => wpAny (model W.prog W.w) A (call (.builtin "len") ([] ++ vs) []) Q E s') E s := by
    refine wpAny_items_cons ?_ he'
    refine wp_call_type g' (sp_cons h sp_nil he) F B (fun vs h' tk u r => ?_) he rfl hd'
    obtain ⟨v, rfl, r1⟩ := rps_one r
    obtain ⟨l, ls, n, rfl, _, el, _, rs⟩ := rp_list r1
    refine call_dict_pairs hA hl (sm_lt O (B.up u).full) el rs fun D h'' tk' kvs u' hlt hd'' hk => ?_
    refine wpAny_items_nil ?_
    have hfit : (kvs.length : Int) < 2 ^ 63 := by
      have := ddk_le ws
      rw [ddk_len] at this
      omega
    refine call_len_dict (s := { s with heap := h'', toks := tk' }) (hbne hlt) hd'' hfit ?_
    rw [hk]
    exact hQ _ h'' _ (u.trans u') (.int _ _)
  rw [he'] at hh ⊢
  exact evalArgs_plain hh
end
end Mine

namespace Mine
open PySem.Challenge (pw_gf0002_01)
theorem encL_ints (ws : List Nat) : encL ws = .list ((ws.map fun n : Nat => (n : Int)).map PyData.int) := by
  unfold encL; rw [List.map_map]; rfl
theorem sum_cast (ws : List Nat) : (ws.map fun n : Nat => (n : Int)).sum = (ws.sum : Int) := by
  induction ws with
  | nil => rfl
  | cons w ws ih => simp [ih]
theorem foldl_max : ∀ (ws : List Nat) (a : Nat), a ≤ ws.foldl max a ∧ (∀ w ∈ ws, w ≤ ws.foldl max a) ∧ (ws.foldl max a = a ∨ ws.foldl max a ∈ ws)
  | [], a => ⟨Nat.le_refl _, fun _ h => (nomatch h), .inl rfl⟩
  | w :: ws, a => by
    obtain ⟨h1, h2, h3⟩ := foldl_max ws (max a w)
    rw [List.foldl_cons]
    refine ⟨by omega, fun x hx => ?_, ?_⟩
    · rcases List.mem_cons.mp hx with rfl | hx
      · omega
      · exact h2 x hx
    · rcases h3 with h3 | h3
      · rw [h3]
        by_cases h : a ≤ w
        · right; rw [Nat.max_eq_right h]; exact List.mem_cons_self
        · left; omega
      · exact .inr (List.mem_cons_of_mem _ h3)
section
variable {W : Wd} {A : Around} {env : Env} {md : List Addr} {G : Cx}
theorem eSum {x : Str} {p pos : Pos} {e : Expr} {ws : List Nat} (hA : A.handled = none) (g : Gl W env x (.builtin "sum")) (h : Ev W A env G e (encL ws))
    (he : starEach [e] env = [(false, eval e env)] := by rfl) (hd : (x == ("__debug__" : Str)) = false := by decide) : Ev W A env G (.Call (.Name x p) [e] [] pos) (encI ws.sum) := by
  rw [encL_ints] at h
  have := ev_sum (p := p) (pos := pos) hA g h he hd
  rw [sum_cast] at this
  exact this
theorem eMax {x : Str} {p pos : Pos} {e : Expr} {ws : List Nat} (hA : A.handled = none) (g : Gl W env x (.builtin "max")) (h : Ev W A env G e (encL ws)) (hne : 0 < ws.length)
    (he : starEach [e] env = [(false, eval e env)] := by rfl) (hd : (x == ("__debug__" : Str)) = false := by decide) : Ev W A env G (.Call (.Name x p) [e] [] pos) (encI (maxOf ws)) := by
  rw [encL_ints] at h
  obtain ⟨h1, h2, h3⟩ := foldl_max ws 0
  refine ev_max (p := p) (pos := pos) (m := ((maxOf ws : Nat) : Int)) hA g h ?_ ?_ he hd
  · refine List.mem_map.mpr ⟨maxOf ws, ?_, rfl⟩
    rcases h3 with h3 | h3
    · cases ws with
      | nil => simp at hne
      | cons w ws =>
        have := h2 w List.mem_cons_self
        have e : w = 0 := by rw [h3] at this; omega
        unfold maxOf
        rw [h3]; subst e; exact List.mem_cons_self
    · exact h3
  · intro a ha
    obtain ⟨w, hw, rfl⟩ := List.mem_map.mp ha
    have := h2 w hw
    unfold maxOf
    omega
theorem eHalf {c c' k₁ k₂ : Expr} {p₁ p₂ p₃ : Pos} {n : Nat} (hn : n ≤ 100) (h : Ev W A env G c (encI n)) (h' : Ev W A env G c' (encI n)) (h₁ : Ev W A env G k₁ (.int 1)) (h₂ : Ev W A env G k₂ (.int 2)) :
    Ev W A env G (.BinOp (.BinOp c .Mult (.BinOp c' .Sub k₁ p₁) p₂) .FloorDiv k₂ p₃) (encI (n * (n - 1) / 2)) := by
  refine evI (ev_floordiv (ev_mul h (ev_sub h' h₁) (IntMulOk.of_left ?_)) h₂ (by decide) (by decide)) ?_
  · unfold Builtin.Int.intBits
    split
    · exact Nat.zero_le _
    · rw [Int.natAbs_natCast]
      have hz : n ≠ 0 := by rintro rfl; simp at *
      have := (Nat.log2_lt (k := 62) hz).mpr (by omega)
      omega
  · cases n with
    | zero => rfl
    | succ n =>
      rw [show ((n + 1 : Nat) : Int) * (((n + 1 : Nat) : Int) - 1) = (((n + 1) * n : Nat) : Int) by simp]
      rw [Int.fdiv_eq_ediv_of_nonneg _ (by decide), Nat.add_sub_cancel]
      omega
/-- comparisons of numbers, of lists of numbers -/
theorem tNe {l r : Expr} {p : Pos} {a b : Nat} (rm : A.units + 64 < cLine) (h₁ : Ev W A env G l (encI a)) (h₂ : Ev W A env G r (encI b)) (e : a = b) (hm : behindInMarks .NotEq r = false := by with_unfolding_all rfl) : Et W A env G (.Compare l [.NotEq] [r] p) false := by
  have := et_cmp (pos := p) h₁ h₂ (cmp_ne (shI (k := 0) a).shaped (shI (k := 0) b).shaped rm (eqv_I a b)) hm
  rw [decide_eq_true e] at this; exact this
theorem tNeL {l r : Expr} {p : Pos} {a b : List Nat} (rm : A.units + 64 < cLine) (h₁ : Ev W A env G l (encL a)) (h₂ : Ev W A env G r (encL b)) (e : a = b) (hm : behindInMarks .NotEq r = false := by with_unfolding_all rfl) : Et W A env G (.Compare l [.NotEq] [r] p) false := by
  have := et_cmp (pos := p) h₁ h₂ (cmp_ne (shL a).shaped (shL b).shaped rm (eqv_L a b)) hm
  rw [decide_eq_true e] at this; exact this
theorem tEq {l r : Expr} {p : Pos} {a b : Nat} (rm : A.units + 64 < cLine) (h₁ : Ev W A env G l (encI a)) (h₂ : Ev W A env G r (encI b)) (hm : behindInMarks .Eq r = false := by with_unfolding_all rfl) : Et W A env G (.Compare l [.Eq] [r] p) (decide (a = b)) :=
  et_cmp (pos := p) h₁ h₂ (cmp_eq (shI (k := 0) a).shaped (shI (k := 0) b).shaped rm (eqv_I a b)) hm
theorem tNeD {l r : Expr} {p : Pos} {a b : Nat} (rm : A.units + 64 < cLine) (h₁ : Ev W A env G l (encI a)) (h₂ : Ev W A env G r (encI b)) (hm : behindInMarks .NotEq r = false := by with_unfolding_all rfl) : Et W A env G (.Compare l [.NotEq] [r] p) (!decide (a = b)) :=
  et_cmp (pos := p) h₁ h₂ (cmp_ne (shI (k := 0) a).shaped (shI (k := 0) b).shaped rm (eqv_I a b)) hm
/-- a or b, where both fail -/
theorem tOr {a b : Expr} {p : Pos} (h₁ : Et W A env G a false) (h₂ : Et W A env G b false) : Et W A env G (.BoolOp .Or [a, b] p) false := et_boolop (ea_or h₁ fun _ => ea_or h₂ fun _ => ea_or_nil)
end

set_option maxHeartbeats 2000000 in
theorem law_4 {W : Wd} {A : Around} {mg : Str → Option Value} {L f : Addr} {q : Str} {cd : Value} {M : Nat} {Bt : List (Nat × Nat)} {bad md : List Addr} {s : Shared} {Q : Flow → Shared → Prop} {E : Value → Shared → Prop} (O : WOk W mg) (rm : Room A 12) (hM : M ≤ 5) (hM2 : 2 ≤ M)
    (hBl : Bt.length ≤ 10) (hG : Good M Bt) (h1 : mg "sum" = none) (h2 : mg "len" = none)
    (hO : OwnIn (envOfC q (defAt pw_gf0002_01 9).2.2 L f cd) md)
    (F : FS (envOfC q (defAt pw_gf0002_01 9).2.2 L f cd) bad [("wins", encL (winsOf M Bt)), ("players", encL (List.range M)), ("beat", .list (Bt.map encP)), ("pairs", .list ((pairsN M).map encP)), ("many", encI M)] s.heap) (B : Bs W bad s.heap) (hm : ∀ b ∈ md, b ∈ bad)
    (k : ∀ h' tk, FS (envOfC q (defAt pw_gf0002_01 9).2.2 L f cd) bad [("wins", encL (winsOf M Bt)), ("players", encL (List.range M)), ("beat", .list (Bt.map encP)), ("pairs", .list ((pairsN M).map encP)), ("many", encI M)] h' → Bs W bad h' → Keep md s.heap h' →
      wpAny (model W.prog W.w) A (execs ((defAt pw_gf0002_01 9).2.1.drop 11) (envOfC q (defAt pw_gf0002_01 9).2.2 L f cd)) Q E { s with heap := h', toks := tk }) :
    wpAny (model W.prog W.w) A (execs ((defAt pw_gf0002_01 9).2.1.drop 9) (envOfC q (defAt pw_gf0002_01 9).2.2 L f cd)) Q E s := by
  have hA := rm.hd
  revert hO F k
  have e := (rfl : defAt pw_gf0002_01 9 = defAt pw_gf0002_01 9)
  conv at e => rhs; whnf
  rw [e]; clear e
  dsimp only
  intro hO F k
  obtain ⟨g1, g2, g3, g4, g5, g6, g7, g8, g9⟩ := hG
  have hP := pairs_len hM
  have hwl : (winsOf M Bt).length = M := by simp [winsOf]
  refine use_x (md := md) (x_if_f (tOr (tNe rm.u64 (eSum hA (gl_b O h1 rfl) (evn (d := encL (winsOf M Bt)))) (el (xs := pairsN M) (enc := encP) (gl_b O h2 rfl) evn (by omega)) g1)
    (tNeL (a := winsOf M Bt) (b := (List.range M).map fun i => (Bt.filter fun p => p.1 = i).length) rm.u64 evn (ecM (List.range M) encI (fun i => (Bt.filter fun p => p.1 = i).length) encI (evi_list hA evn) (by simp; omega) fun C i hi => ?a1) rfl)) xs_nil) F B hm fun h₁ tk₁ F₁ B₁ K₁ => ?_
  case a1 =>
    have e1 : (Bt.filter fun p => p.1 = i).length = ((Bt.filter fun p => decide (p.1 = i)).map id).length := by simp
    rw [e1]
    exact el (enc := encP) (gl_b O h2 rfl) (ecF Bt encP (fun p => decide (p.1 = i)) id encP (evi_list hA evn) (by omega) (fun C' p hp => tEq rm.u64 (ev_itemT (ds := [encI p.1, encI p.2]) (k := 0) (d := encI p.1) evn ev_int (by decide) (by decide) (show (0 : Int) < 2 by decide) rfl) evn) (fun C' p hp _ => evn)) (by rw [List.length_map]; exact Nat.le_trans (List.length_filter_le _ _) (by omega))
  refine use_x (md := md) (x_if_f (tNe rm.u64 (eSum hA (gl_b O h1 rfl) (ws := (winsOf M Bt).map fun c => c * c) (ecM (winsOf M Bt) encI (fun c => c * c) encI (evi_list hA evn) (by omega) fun C c hc => eMul evn evn (by have := g2 c hc; omega)))
    (eSum hA (gl_b O h1 rfl) (ws := (winsOf M Bt).map fun c => (M - 1 - c) * (M - 1 - c)) (ecM (winsOf M Bt) encI (fun c => (M - 1 - c) * (M - 1 - c)) encI (evi_list hA evn) (by omega) fun C c hc => eMul (eSub (eSub (b := 1) evn ev_int (by omega)) evn (g2 c hc)) (eSub (eSub (b := 1) evn ev_int (by omega)) evn (g2 c hc)) (by omega))) g3) xs_nil) F₁ B₁ hm fun h₂ tk₂ F₂ B₂ K₂ => ?_
  exact k h₂ tk₂ F₂ B₂ (K₁.trans K₂)
end Mine

namespace Mine
open PySem.Challenge (pw_gf0002_01)

def encOne (_ : Nat) : PyData := encI 1
set_option maxHeartbeats 2000000 in
theorem law_5 {W : Wd} {A : Around} {mg : Str → Option Value} {L f : Addr} {q : Str} {cd : Value} {M f₁ f₂ : Nat} {cd₁ cd₂ : Value} {q₁ q₂ : Str} {Bt : List (Nat × Nat)} {bad md : List Addr} {s : Shared} {Q : Flow → Shared → Prop} {E : Value → Shared → Prop} (O : WOk W mg) (rm : Room A 12) (hM : M ≤ 5) (hM2 : 2 ≤ M)
    (hBl : Bt.length ≤ 10) (hG : Good M Bt) (h1 : mg "sum" = none) (h2 : mg "len" = none) (h3 : mg "range" = none)
    (I₁ : FnP W 7 f₁ q₁ cd₁) (I₂ : FnP W 8 f₂ q₂ cd₂) (gg₁ : mg "_law_orders" = some (.ref f₁)) (gg₂ : mg "_law_row" = some (.ref f₂))
    (hO : OwnIn (envOfC q (defAt pw_gf0002_01 9).2.2 L f cd) md)
    (F : FS (envOfC q (defAt pw_gf0002_01 9).2.2 L f cd) bad [("wins", encL (winsOf M Bt)), ("players", encL (List.range M)), ("beat", .list (Bt.map encP)), ("pairs", .list ((pairsN M).map encP)), ("many", encI M)] s.heap) (B : Bs W bad s.heap) (hm : ∀ b ∈ md, b ∈ bad)
    (k : ∀ h' tk, FS (envOfC q (defAt pw_gf0002_01 9).2.2 L f cd) bad [("rings", .list ((ringsOf M Bt).map encOne)), ("rows", .list ((rowsOf M Bt).map encL)), ("wins", encL (winsOf M Bt)), ("players", encL (List.range M)), ("beat", .list (Bt.map encP)), ("many", encI M)] h' → Bs W bad h' → Keep md s.heap h' →
      wpAny (model W.prog W.w) A (execs ((defAt pw_gf0002_01 9).2.1.drop 15) (envOfC q (defAt pw_gf0002_01 9).2.2 L f cd)) Q E { s with heap := h', toks := tk }) :
    wpAny (model W.prog W.w) A (execs ((defAt pw_gf0002_01 9).2.1.drop 11) (envOfC q (defAt pw_gf0002_01 9).2.2 L f cd)) Q E s := by
  have hA := rm.hd
  revert hO F k
  have e := (rfl : defAt pw_gf0002_01 9 = defAt pw_gf0002_01 9)
  conv at e => rhs; whnf
  rw [e]; clear e
  dsimp only
  intro hO F k
  obtain ⟨g1, g2, g3, g4, g5, g6, g7, g8, g9⟩ := hG
  have hwl : (winsOf M Bt).length = M := by simp [winsOf]
  have hol := orders_len M (List.range M) (by simp; omega)
  have ho : (orders M (List.range M)).length ≤ 3125 := Nat.le_trans hol (Nat.pow_le_pow_right (by decide) hM)
  have er : (rowsOf M Bt).map encL = (orders M (List.range M)).flatMap fun row => if decide ((((List.range' 1 (M - 1)).filter fun k => !decide ((row.getD (k - 1) 0, row.getD k 0) ∈ Bt)).map id) = []) then [encL row] else [] := by
    rw [flatMap_if]
    unfold rowsOf
    simp only [List.map_id]
  have hrl : (rowsOf M Bt).length ≤ 3125 := by unfold rowsOf; exact Nat.le_trans (List.length_filter_le _ _) ho
  refine use_x (md := md) (xc (orders M (List.range M)) encL _ hO (evi_list hA (ev_callF (n := M + 1) (gl_f O gg₁) (fun h => fnAt_of I₁) (orders_ok O I₁ gg₁ M (List.range M) (by simp) List.nodup_range hM) (rm.less (by omega)) (sp_cons evn sp_nil)))
    (fun C D row hrow => body1 (et_cmp (ecF (List.range' 1 (M - 1)) encI (fun k => !decide ((row.getD (k - 1) 0, row.getD k 0) ∈ Bt)) id encI (er2 (a := 1) hA (gl_b O h3 rfl) ev_int evn (by omega) (by omega)) (by simp; omega) (fun C' k hk => ?a1) (fun C' k hk _ => evn)) eNil (cNil shI rm.u64)) fun _ => rl evn) ?a2) F B hm fun h₁ tk₁ F₁ B₁ K₁ => ?_
  case a1 =>
    have hk' := List.mem_range'_1.mp hk
    have hrow' := orders_mem _ _ _ hrow
    exact et_cmp (eP (eIt (ps := row) evn (eSub (b := 1) evn ev_int (by omega)) (by omega) (by omega)) (eIt (ps := row) evn evn (by omega) (by omega))) evn (cNotIn rm.u65)
  case a2 => rw [← er, List.length_map]; exact le_line (by omega)
  rw [← er] at F₁
  have hT2 : PyData.eqv (encI ((rowsOf M Bt).length % 2)) (encI 1) = true := by rw [eqv_I]; exact decide_eq_true g4
  refine use_x (md := md) (x_if_f (tOr (tNe rm.u64 (a := (rowsOf M Bt).length % 2) (b := 1) (eMod (b := 2) (el (xs := rowsOf M Bt) (enc := encL) (gl_b O h2 rfl) evn (by omega)) ev_int (by decide)) ev_int g4)
    (?b1 : Et W A _ _ _ false)) xs_nil) F₁ B₁ hm fun h₂ tk₂ F₂ B₂ K₂ => ?_
  case b1 =>
    have hc := cmp_notIn (W := W) (A := A) (xs := (rowsOf M Bt).map encL) (d := encL (rowOf Bt (List.range M))) (b := true) (shLs _).shaped (shL _).shaped rm.u65 (by rw [any_map eqv_L]; simpa using g5)
    exact et_cmp (ev_callF (n := 1) (gl_f O gg₂) (fun h => fnAt_of I₂) (row_ok O I₂ h2 h3 (List.range M) Bt (by simp; omega) hBl) (rm.less (by omega)) (sp_cons evn (sp_cons evn sp_nil))) evn hc
  have eg : (ringsOf M Bt).map encOne = (List.range M).flatMap fun a => (List.range a).flatMap fun b => (List.range b).flatMap fun c =>
      if decide ((([a, b, c].filter fun one => decide ((([a, b, c].filter fun other => decide ((one, other) ∈ Bt)).map id).length = 2)).map id) = []) then [encI 1] else [] := by
    unfold ringsOf
    simp only [List.map_flatMap, List.map_id]
    congr 1; funext a; congr 1; funext b; congr 1; funext c
    by_cases h : ([a, b, c].filter fun one => decide (([a, b, c].filter fun other => decide ((one, other) ∈ Bt)).length = 2)) = []
    · simp only [h, if_true, decide_true]; rfl
    · simp only [h, if_false, decide_false, Bool.false_eq_true, List.map_nil]
  have hgl : (ringsOf M Bt).length ≤ 4000 := by
    have : (ringsOf M Bt).length ≤ M * (M - 1) * (M - 2) / 6 := by omega
    have : M * (M - 1) * (M - 2) ≤ 5 * 4 * 3 := Nat.mul_le_mul (Nat.mul_le_mul hM (by omega)) (by omega)
    omega
  refine use_x (md := md) (xc (List.range M) encI _ hO (evi_list hA evn) (fun C D a ha => body0 (ri (List.range a) encI (fun b => (List.range b).flatMap fun c => if decide ((([a, b, c].filter fun one => decide ((([a, b, c].filter fun other => decide ((one, other) ∈ Bt)).map id).length = 2)).map id) = []) then [encI 1] else []) ?d1 ?d2)) ?d4) F₂ B₂ hm fun h₃ tk₃ F₃ B₃ K₃ => ?_
  case d1 => exact er1 hA (gl_b O h3 rfl) evn (by have := List.mem_range.mp ha; omega)
  case d2 =>
    intro b hb
    refine body0 (ri (List.range b) encI (fun c => if decide ((([a, b, c].filter fun one => decide ((([a, b, c].filter fun other => decide ((one, other) ∈ Bt)).map id).length = 2)).map id) = []) then [encI 1] else []) ?_ fun c hc => body1 ?_ fun _ => rl (d := encI 1) ev_int)
    · exact er1 hA (gl_b O h3 rfl) evn (by have := List.mem_range.mp ha; have := List.mem_range.mp hb; omega)
    refine et_cmp (ecF [a, b, c] encI (fun one => decide ((([a, b, c].filter fun other => decide ((one, other) ∈ Bt)).map id).length = 2)) id encI (evi_list hA (ev_list (sp_cons evn (sp_cons evn (sp_cons evn sp_nil))) (le_line (show 3 ≤ 4000 by decide)))) (show 3 ≤ 4000 by decide) (fun C' one ho => ?e1) (fun C' one ho _ => evn)) eNil (cNil shI rm.u64)
    exact tEq rm.u64 (el (enc := encI) (gl_b O h2 rfl) (ecF [a, b, c] encI (fun other => decide ((one, other) ∈ Bt)) id encI (evi_list hA (ev_list (sp_cons evn (sp_cons evn (sp_cons evn sp_nil))) (le_line (show 3 ≤ 4000 by decide)))) (show 3 ≤ 4000 by decide) (fun C'' other ho' => et_cmp (eP evn evn) evn (cIn rm.u65)) (fun C'' other ho' _ => evn)) (by rw [List.length_map]; exact Nat.le_trans (List.length_filter_le _ _) (show 3 ≤ 4000 by decide))) (ev_int (i := 2))
  case d4 => rw [← eg, List.length_map]; exact le_line (by omega)
  rw [← eg] at F₃
  have hhl : ((winsOf M Bt).map fun c => c * (c - 1) / 2).sum ≤ M * (M - 1) * (M - 2) / 6 := by omega
  refine use_x (md := md) (x_if_f (tNe rm.u64 (a := (ringsOf M Bt).length) (b := M * (M - 1) * (M - 2) / 6 - ((winsOf M Bt).map fun c => c * (c - 1) / 2).sum) (el (xs := ringsOf M Bt) (enc := encOne) (gl_b O h2 rfl) evn hgl)
    (eSub (eDiv (b := 6) (eMul (eMul evn (eSub (b := 1) evn ev_int (by omega)) (by omega)) (eSub (b := 2) evn ev_int (by omega)) ?f1) ev_int (by decide) (by decide)) (eSum hA (gl_b O h1 rfl) (ws := (winsOf M Bt).map fun c => c * (c - 1) / 2) (ecM (winsOf M Bt) encI (fun c => c * (c - 1) / 2) encI (evi_list hA evn) (by omega) fun C c hc => eHalf (by have := g2 c hc; omega) evn evn ev_int ev_int)) hhl) (by omega)) xs_nil) F₃ B₃ hm fun h₄ tk₄ F₄ B₄ K₄ => ?_
  case f1 =>
    have : M * (M - 1) ≤ 5 * 4 := Nat.mul_le_mul hM (by omega)
    omega
  exact k h₄ tk₄ (F₄.say (sub_cons (sub_cons (sub_cons (sub_cons (sub_cons (sub_cons sub_nil))))))) B₄ (((K₁.trans K₂).trans K₃).trans K₄)
end Mine

namespace Mine
open PySem.Challenge (pw_gf0002_01)
section
variable {W : Wd} {A : Around} {env : Env} {md : List Addr} {G : Cx}
theorem tNotIn {l r : Expr} {p : Pos} {a : Nat} {ws : List Nat} (rm : A.units + 65 < cLine) (h₁ : Ev W A env G l (encI a)) (h₂ : Ev W A env G r (encL ws)) (hm : behindInMarks .NotIn r = false := by with_unfolding_all rfl) : Et W A env G (.Compare l [.NotIn] [r] p) (!decide (a ∈ ws)) :=
  et_cmp (pos := p) h₁ h₂ (cmp_notIn (shL ws).shaped (shI (k := 0) a).shaped rm ((any_map eqv_I ws a).trans (by simp))) hm
theorem tNeNil {α : Type} {l r : Expr} {p : Pos} {xs : List α} {enc : α → PyData} (hs : ∀ x, SH 60 (enc x)) (rm : A.units + 64 < cLine) (h₁ : Ev W A env G l (.list (xs.map enc))) (h₂ : Ev W A env G r (.list [])) (e : xs = []) (hm : behindInMarks .NotEq r = false := by with_unfolding_all rfl) : Et W A env G (.Compare l [.NotEq] [r] p) false := by
  have := et_cmp (pos := p) h₁ h₂ (cmp_ne (sh_lmap hs).shaped rfl rm (eqv_nil xs)) hm
  rw [decide_eq_true e] at this; exact this
theorem tNeB {l r : Expr} {p : Pos} {a b : Bool} (rm : A.units + 64 < cLine) (h₁ : Ev W A env G l (.bool a)) (h₂ : Ev W A env G r (.bool b)) (e : a = b) (hm : behindInMarks .NotEq r = false := by with_unfolding_all rfl) : Et W A env G (.Compare l [.NotEq] [r] p) false := by
  have := et_cmp (pos := p) h₁ h₂ (cmp_ne (b := true) (sh_bool (k := 0)).shaped (sh_bool (k := 0)).shaped rm (by subst e; simp [PyData.eqv])) hm
  exact this
end
theorem far_eq (M : Nat) (B : List (Nat × Nat)) (king : Nat) : ((List.range M).filter fun one => (!decide (one = king)) && ((!decide (one ∈ nearOf B king)) && (decide (((nearOf B king).filter fun other => decide ((other, one) ∈ B)).map id = []) && true))) = farOf M B king := by
  unfold farOf
  apply List.filter_congr
  intro one _
  simp

set_option maxHeartbeats 2000000 in
theorem law_6 {W : Wd} {A : Around} {mg : Str → Option Value} {L f : Addr} {q : Str} {cd : Value} {M : Nat} {Bt : List (Nat × Nat)} {bad md : List Addr} {s : Shared} {Q : Flow → Shared → Prop} {E : Value → Shared → Prop} (O : WOk W mg) (rm : Room A 12) (hM : M ≤ 5) (hM2 : 2 ≤ M)
    (hBl : Bt.length ≤ 10) (hG : Good M Bt) (h2 : mg "len" = none) (h3 : mg "dict" = none) (h4 : mg "max" = none)
    (hO : OwnIn (envOfC q (defAt pw_gf0002_01 9).2.2 L f cd) md)
    (F : FS (envOfC q (defAt pw_gf0002_01 9).2.2 L f cd) bad [("rings", .list ((ringsOf M Bt).map encOne)), ("rows", .list ((rowsOf M Bt).map encL)), ("wins", encL (winsOf M Bt)), ("players", encL (List.range M)), ("beat", .list (Bt.map encP)), ("many", encI M)] s.heap) (B : Bs W bad s.heap) (hm : ∀ b ∈ md, b ∈ bad)
    (k : ∀ h' tk, Bs W bad h' → Keep md s.heap h' → Q (.ret (.bool true)) { s with heap := h', toks := tk }) :
    wpAny (model W.prog W.w) A (execs ((defAt pw_gf0002_01 9).2.1.drop 15) (envOfC q (defAt pw_gf0002_01 9).2.2 L f cd)) Q E s := by
  have hA := rm.hd
  revert hO F
  have e := (rfl : defAt pw_gf0002_01 9 = defAt pw_gf0002_01 9)
  conv at e => rhs; whnf
  rw [e]; clear e
  dsimp only
  intro hO F
  obtain ⟨g1, g2, g3, g4, g5, g6, g7, g8, g9⟩ := hG
  have hwl : (winsOf M Bt).length = M := by simp [winsOf]
  have hol := orders_len M (List.range M) (by simp; omega)
  have ho : (orders M (List.range M)).length ≤ 3125 := Nat.le_trans hol (Nat.pow_le_pow_right (by decide) hM)
  have hrl : (rowsOf M Bt).length ≤ 3125 := by unfold rowsOf; exact Nat.le_trans (List.length_filter_le _ _) ho
  have em : ((winsOf M Bt).map id).map (fun c => PyData.tuple [encI c, encI 1]) = (winsOf M Bt).map fun c => PyData.tuple [encI c, encI 1] := by rw [List.map_id]
  refine use_x (xa hO (d := .bool (decide ((distinct (winsOf M Bt)).length = M))) (ev_cmp (eLenDict O hA (gl_b O h2 rfl) (gl_b O h3 rfl) (em ▸ ecM (winsOf M Bt) encI id (fun c => .tuple [encI c, encI 1]) (evi_list hA evn) (by omega) fun C c hc => ev_tuple (sp_cons evn (sp_cons (d := encI 1) ev_int sp_nil)) (le_line (show 2 ≤ 4000 by decide))) (by omega)) evn (cmp_eq (shI (k := 0) _).shaped (shI (k := 0) _).shaped rm.u64 (eqv_I _ _)))) F B hm fun h₁ tk₁ F₁ B₁ K₁ => ?_
  have hru : decide (ringsOf M Bt = []) = decide ((distinct (winsOf M Bt)).length = M) := decide_eq_decide.mpr g7
  have hu2 : (decide ((distinct (winsOf M Bt)).length = M) && ((!decide ((rowsOf M Bt).length = 1)) && true)) = false := by
    by_cases h : (distinct (winsOf M Bt)).length = M
    · simp [h, g8 h]
    · simp [h]
  refine use_x (md := md) (x_if_f (tOr (tNeB rm.u64 (ev_cmp evn eNil (cNil (enc := encOne) (xs := ringsOf M Bt) (fun _ => sh_int) rm.u64)) evn hru)
    (hu2 ▸ et_boolop (ea_and (et_bool evn) fun _ => ea_and (tNeD rm.u64 (el (xs := rowsOf M Bt) (enc := encL) (gl_b O h2 rfl) evn (by omega)) (b := 1) ev_int) fun _ => ea_and_nil))) xs_nil) F₁ B₁ hm fun h₂ tk₂ F₂ B₂ K₂ => ?_
  have ek : (((List.range M).filter fun one => decide ((winsOf M Bt).getD one 0 = maxOf (winsOf M Bt))).map id).map encI = (kingsOf M Bt).map encI := by rw [List.map_id]; rfl
  have hkl : (kingsOf M Bt).length ≤ 5 := by unfold kingsOf; exact Nat.le_trans (List.length_filter_le _ _) (by simp; omega)
  refine use_x (md := md) (xf (ds := (kingsOf M Bt).map encI) (fun _ => [("players", encL (List.range M)), ("beat", .list (Bt.map encP))]) (fun i => [("king", encI ((kingsOf M Bt).getD i 0)), ("players", encL (List.range M)), ("beat", .list (Bt.map encP))]) hO
    (evi_list hA (ek ▸ ecF (List.range M) encI (fun one => decide ((winsOf M Bt).getD one 0 = maxOf (winsOf M Bt))) id encI (evi_list hA evn) (by simp; omega) (fun C one hone => ?a1) (fun C one hone _ => evn))) (sub_cons (sub_cons sub_nil)) (fun i d hd => ?a2) (fun i d hd => ?a3)) F₂ B₂ hm fun h₃ tk₃ F₃ B₃ K₃ => ?_
  case a1 => exact tEq rm.u64 (eIt (ps := winsOf M Bt) evn evn (by have := List.mem_range.mp hone; omega) (by omega)) (eMax hA (gl_b O h4 rfl) evn (by omega))
  case a2 =>
    obtain ⟨hi, rfl⟩ := xs_at hd
    have : (kingsOf M Bt)[i] = (kingsOf M Bt).getD i 0 := by rw [List.getD_eq_getElem?_getD, List.getElem?_eq_getElem hi]; rfl
    rw [this]
    exact asl hO
  case a3 =>
    obtain ⟨hi, rfl⟩ := xs_at hd
    have hmem : (kingsOf M Bt).getD i 0 ∈ kingsOf M Bt := by rw [List.getD_eq_getElem?_getD, List.getElem?_eq_getElem hi]; exact List.getElem_mem hi
    have hfar := g9 _ hmem
    generalize (kingsOf M Bt).getD i 0 = king at hfar ⊢
    have en : encL (nearOf Bt king) = .list (Bt.flatMap fun p => if decide (p.1 = king) then [encI p.2] else []) := by
      rw [flatMap_if]
      unfold encL nearOf
      rw [List.map_map]; rfl
    have hnl : (nearOf Bt king).length ≤ 10 := by unfold nearOf; rw [List.length_map]; exact Nat.le_trans (List.length_filter_le _ _) hBl
    refine (xs_cons (xa hO (d := encL (nearOf Bt king)) (en ▸ ec2 Bt (fun p => encI p.1) (fun p => encI p.2) _ hA ?n0 (fun C D p hp => body1 (tEq rm.u64 evn evn) fun _ => rl evn) ?n1)) (xs_cons (x_if_f (tNeNil (xs := farOf M Bt king) (enc := encI) shI rm.u64 ?n2 eNil hfar) xs_nil) xs_nil)).say (sub_cons (sub_cons sub_nil))
    case n0 => exact evi_list (ds := Bt.map encP) hA evn
    case n1 => rw [flatMap_if, List.length_map]; exact le_line (Nat.le_trans (List.length_filter_le _ _) (by omega))
    case n2 =>
      rw [← far_eq, ← List.map_id ((List.range M).filter _)]
      exact ecF (List.range M) encI _ id encI (evi_list hA evn) (by simp; omega) (fun C one hone => et_boolop (ea_and (tNeD rm.u64 evn evn) fun _ => ea_and (tNotIn rm.u65 evn evn) fun _ => ea_and (et_cmp (ecF (nearOf Bt king) encI (fun other => decide ((other, one) ∈ Bt)) id encI (evi_list hA evn) (by omega) (fun C' other hother => et_cmp (eP evn evn) evn (cIn rm.u65)) (fun C' other hother _ => evn)) eNil (cNil shI rm.u64)) fun _ => ea_and_nil)) (fun C one hone _ => evn)
  refine wpAny_execs_cons (wpAny_Return_some (use_ev (ev_bool (b := true)) F₃ B₃ fun v h₄ tk₄ u₄ r₄ => ?_))
  rw [rp_bool r₄]
  exact k h₄ tk₄ (B₃.up u₄) (((K₁.trans K₂).trans K₃).trans (u₄.keep _))
end Mine

namespace Mine

def mB (B : List (Nat × Nat)) (x y : Nat) : Bool := B.any fun p => Nat.beq p.1 x && Nat.beq p.2 y
theorem mB_eq (B : List (Nat × Nat)) (x y : Nat) : mB B x y = decide ((x, y) ∈ B) := by
  unfold mB
  rw [Bool.eq_iff_iff, List.any_eq_true, decide_eq_true_iff]
  constructor
  · rintro ⟨p, hp, h⟩
    rw [Bool.and_eq_true] at h
    have h1 := Nat.eq_of_beq_eq_true h.1
    have h2 := Nat.eq_of_beq_eq_true h.2
    subst h1 h2
    exact hp
  · intro h
    exact ⟨_, h, by rw [Bool.and_eq_true]; exact ⟨Nat.beq_refl _, Nat.beq_refl _⟩⟩
def hp (B : List (Nat × Nat)) : Nat → List Nat → Nat → Nat
  | 0, _, _ => 1
  | n + 1, ps, l => (ps.map fun o => if mB B l o then hp B n (ps.filter (· != o)) o else 0).sum
def hpAll (M : Nat) (B : List (Nat × Nat)) : Nat := ((List.range M).map fun o => hp B (M - 1) ((List.range M).filter (· != o)) o).sum
def chn (B : List (Nat × Nat)) : Nat → List Nat → Bool
  | _, [] => true
  | l, x :: r => mB B l x && chn B x r
def chain (B : List (Nat × Nat)) : List Nat → Bool
  | [] => true
  | x :: r => chn B x r
theorem chn_orders (B : List (Nat × Nat)) : ∀ n ps l, ((orders n ps).filter (chn B l)).length = hp B n ps l
  | 0, ps, l => rfl
  | n + 1, ps, l => by
    rw [orders_succ, hp, List.filter_flatMap, List.length_flatMap]
    congr 1
    apply List.map_congr_left
    intro o _
    rw [List.filter_map, List.length_map]
    cases h : mB B l o with
    | true =>
      rw [if_pos rfl, ← chn_orders B n (ps.filter (· != o)) o]
      congr 1
      apply List.filter_congr
      intro r _
      simp [chn, h]
    | false =>
      rw [if_neg (by simp)]
      have : ((orders n (ps.filter (· != o))).filter (chn B l ∘ fun x => o :: x)) = [] := by
        rw [List.filter_eq_nil_iff]; intro r _; simp [chn, h]
      rw [this]; rfl
theorem chain_orders (B : List (Nat × Nat)) (n : Nat) (ps : List Nat) : ((orders (n + 1) ps).filter (chain B)).length = (ps.map fun o => hp B n (ps.filter (· != o)) o).sum := by
  rw [orders_succ, List.filter_flatMap, List.length_flatMap]
  congr 1
  apply List.map_congr_left
  intro o _
  rw [List.filter_map, List.length_map, ← chn_orders]
  rfl
theorem chn_get (B : List (Nat × Nat)) : ∀ l r, chn B l r = true ↔ ∀ k, k < r.length → ((l :: r).getD k 0, r.getD k 0) ∈ B
  | l, [] => by simp [chn]
  | l, x :: r => by
    rw [chn, Bool.and_eq_true, chn_get B x r, mB_eq, decide_eq_true_iff]
    constructor
    · rintro ⟨h1, h2⟩ k hk
      cases k with
      | zero => simpa using h1
      | succ k => simpa using h2 k (by simpa using hk)
    · intro h
      exact ⟨by simpa using h 0 (by simp), fun k hk => by simpa using h (k + 1) (by simpa using hk)⟩
theorem chain_row (B : List (Nat × Nat)) (M : Nat) (row : List Nat) (h : row.length = M) : decide (((List.range' 1 (M - 1)).filter fun k => !decide ((row.getD (k - 1) 0, row.getD k 0) ∈ B)) = []) = chain B row := by
  rw [Bool.eq_iff_iff, decide_eq_true_iff, List.filter_eq_nil_iff]
  cases row with
  | nil => simp at h; subst h; simp [chain]
  | cons x r =>
    rw [chain, chn_get]
    simp only [List.length_cons] at h
    constructor
    · intro q k hk
      have := q (k + 1) (by rw [List.mem_range'_1]; omega)
      simpa using this
    · intro q k hk
      rw [List.mem_range'_1] at hk
      have := q (k - 1) (by omega)
      obtain ⟨j, rfl⟩ : ∃ j, k = j + 1 := ⟨k - 1, by omega⟩
      simpa using this
theorem rowsOf_eq (M : Nat) (B : List (Nat × Nat)) : rowsOf M B = (orders M (List.range M)).filter (chain B) := by
  unfold rowsOf
  apply List.filter_congr
  intro row hr
  exact chain_row B M row (orders_mem _ _ _ hr)
theorem rowsOf_len {M : Nat} (h : 1 ≤ M) (B : List (Nat × Nat)) : (rowsOf M B).length = hpAll M B := by
  obtain ⟨n, rfl⟩ : ∃ n, M = n + 1 := ⟨M - 1, by omega⟩
  rw [rowsOf_eq, chain_orders]; rfl
theorem orders_perm : ∀ n ps r, ps.length = n → ps.Nodup → r.Perm ps → r ∈ orders n ps
  | 0, ps, r, h, _, hr => by
    have : ps = [] := List.length_eq_zero_iff.mp h
    subst this
    simp [orders, hr.eq_nil]
  | n + 1, ps, r, h, hn, hr => by
    cases r with
    | nil => have := hr.length_eq; simp at this; omega
    | cons o r =>
      have ho : o ∈ ps := hr.subset List.mem_cons_self
      rw [orders_succ, List.mem_flatMap]
      obtain ⟨l1, l2⟩ := filter_len h hn ho
      refine ⟨o, ho, List.mem_map.mpr ⟨r, orders_perm n _ r l1 l2 ?_, rfl⟩⟩
      rw [← List.Nodup.erase_eq_filter hn]
      have := hr.erase o
      simpa using this
theorem rowStep_perm (B : List (Nat × Nat)) (found : List Nat) (o : Nat) : (rowStep B found o).Perm (o :: found) := by
  unfold rowStep
  have := List.perm_middle (a := o) (l₁ := found.take (place B found o).length) (l₂ := found.drop (place B found o).length)
  rw [List.take_append_drop] at this
  simpa using this
theorem rowFold_perm (B : List (Nat × Nat)) : ∀ (ps found : List Nat), (ps.foldl (rowStep B) found).Perm (found ++ ps)
  | [], found => by simp
  | p :: ps, found => by
    rw [List.foldl_cons]
    refine (rowFold_perm B ps _).trans ?_
    refine ((rowStep_perm B found p).append_right ps).trans ?_
    exact (List.perm_middle (a := p) (l₁ := found) (l₂ := ps)).symm
theorem rowOf_mem (M : Nat) (B : List (Nat × Nat)) (h : chain B (rowOf B (List.range M)) = true) : rowOf B (List.range M) ∈ rowsOf M B := by
  rw [rowsOf_eq, List.mem_filter]
  refine ⟨orders_perm _ _ _ (by simp) List.nodup_range ?_, h⟩
  have := rowFold_perm B (List.range M) []
  simpa [rowOf] using this

/-- each two players meet once -/
theorem pairs_facts {M : Nat} (h : M ≤ 5) : (pairsN M).Nodup ∧ (∀ p ∈ pairsN M, p.1 < p.2 ∧ p.2 < M) ∧ (pairsN M).length ≤ 10 := by
  have : M = 0 ∨ M = 1 ∨ M = 2 ∨ M = 3 ∨ M = 4 ∨ M = 5 := by omega
  rcases this with rfl | rfl | rfl | rfl | rfl | rfl <;> decide
theorem beat_facts {M : Nat} (N : Nat) (h : M ≤ 5) : (beatN M N).Nodup ∧ (∀ p ∈ beatN M N, p.1 < M ∧ p.2 < M) ∧ (beatN M N).length ≤ 10 := by
  obtain ⟨h1, h2, h3⟩ := pairs_facts h
  have hz : ∀ p ∈ (pairsN M).zipIdx, p.1.1 < p.1.2 ∧ p.1.2 < M := fun p hp => h2 _ (List.fst_mem_of_mem_zipIdx hp)
  refine ⟨?_, fun p hp => ?_, by unfold beatN; rw [List.length_map, List.length_zipIdx]; exact h3⟩
  · have e : (beatN M N).map (fun p => (min p.1 p.2, max p.1 p.2)) = pairsN M := by
      unfold beatN
      rw [List.map_map]
      have e2 : (pairsN M).zipIdx.map ((fun p : Nat × Nat => (min p.1 p.2, max p.1 p.2)) ∘ fun p => if (bits (pairsN M).length N).getD p.2 0 = 1 then p.1 else (p.1.2, p.1.1)) = (pairsN M).zipIdx.map Prod.fst := by
        apply List.map_congr_left
        intro p hp
        have := (hz p hp).1
        show (fun p : Nat × Nat => (min p.1 p.2, max p.1 p.2)) (if _ then _ else _) = p.1
        split
        · exact Prod.ext (Nat.min_eq_left (Nat.le_of_lt this)) (Nat.max_eq_right (Nat.le_of_lt this))
        · exact Prod.ext (Nat.min_eq_right (Nat.le_of_lt this)) (Nat.max_eq_left (Nat.le_of_lt this))
      rw [e2, List.zipIdx_map_fst]
    rw [← e] at h1
    exact List.Pairwise.imp (fun hne q => hne (by rw [q])) (List.pairwise_map.mp h1)
  · unfold beatN at hp
    obtain ⟨p', hp', rfl⟩ := List.mem_map.mp hp
    obtain ⟨a, b⟩ := hz p' hp'
    split
    · exact ⟨by omega, b⟩
    · exact ⟨b, by show p'.1.1 < M; omega⟩
/-- the same, as it is counted -/
abbrev Chk (M : Nat) (B : List (Nat × Nat)) : Prop :=
  (winsOf M B).sum = (pairsN M).length ∧ (∀ c ∈ winsOf M B, c ≤ M - 1) ∧
  ((winsOf M B).map fun c => c * c).sum = ((winsOf M B).map fun c => (M - 1 - c) * (M - 1 - c)).sum ∧
  hpAll M B % 2 = 1 ∧ chain B (rowOf B (List.range M)) = true ∧
  (ringsOf M B).length + ((winsOf M B).map fun c => c * (c - 1) / 2).sum = M * (M - 1) * (M - 2) / 6 ∧
  (((winsOf M B).map fun c => c * (c - 1) / 2).sum = M * (M - 1) * (M - 2) / 6 ↔ (distinct (winsOf M B)).length = M) ∧ ((distinct (winsOf M B)).length = M → hpAll M B = 1) ∧
  (∀ king ∈ kingsOf M B, farOf M B king = [])
theorem Chk.good {M : Nat} {B : List (Nat × Nat)} (hM : 1 ≤ M) (h : Chk M B) : Good M B := by
  obtain ⟨h1, h2, h3, h4, h5, h6, h7, h8, h9⟩ := h
  refine ⟨h1, h2, h3, ?_, rowOf_mem M B h5, h6, ?_, fun q => ?_, h9⟩
  · rw [rowsOf_len hM]; exact h4
  · rw [← h7, ← List.length_eq_zero_iff]; omega
  · rw [rowsOf_len hM]; exact h8 q
theorem c2 : ∀ N < 2, Chk 2 (beatN 2 N) := by decide +kernel
theorem c3 : ∀ N < 8, Chk 3 (beatN 3 N) := by decide +kernel
theorem c4 : ∀ N < 64, Chk 4 (beatN 4 N) := by decide +kernel
end Mine

namespace Mine
theorem c5_0 : ∀ N < 32, Chk 5 (beatN 5 (N + 0)) := by decide +kernel
theorem c5_1 : ∀ N < 32, Chk 5 (beatN 5 (N + 32)) := by decide +kernel
theorem c5_2 : ∀ N < 32, Chk 5 (beatN 5 (N + 64)) := by decide +kernel
theorem c5_3 : ∀ N < 32, Chk 5 (beatN 5 (N + 96)) := by decide +kernel
theorem c5_4 : ∀ N < 32, Chk 5 (beatN 5 (N + 128)) := by decide +kernel
theorem c5_5 : ∀ N < 32, Chk 5 (beatN 5 (N + 160)) := by decide +kernel
theorem c5_6 : ∀ N < 32, Chk 5 (beatN 5 (N + 192)) := by decide +kernel
theorem c5_7 : ∀ N < 32, Chk 5 (beatN 5 (N + 224)) := by decide +kernel
theorem c5_8 : ∀ N < 32, Chk 5 (beatN 5 (N + 256)) := by decide +kernel
theorem c5_9 : ∀ N < 32, Chk 5 (beatN 5 (N + 288)) := by decide +kernel
theorem c5_10 : ∀ N < 32, Chk 5 (beatN 5 (N + 320)) := by decide +kernel
theorem c5_11 : ∀ N < 32, Chk 5 (beatN 5 (N + 352)) := by decide +kernel
theorem c5_12 : ∀ N < 32, Chk 5 (beatN 5 (N + 384)) := by decide +kernel
theorem c5_13 : ∀ N < 32, Chk 5 (beatN 5 (N + 416)) := by decide +kernel
theorem c5_14 : ∀ N < 32, Chk 5 (beatN 5 (N + 448)) := by decide +kernel
theorem c5_15 : ∀ N < 32, Chk 5 (beatN 5 (N + 480)) := by decide +kernel
theorem c5_16 : ∀ N < 32, Chk 5 (beatN 5 (N + 512)) := by decide +kernel
theorem c5_17 : ∀ N < 32, Chk 5 (beatN 5 (N + 544)) := by decide +kernel
theorem c5_18 : ∀ N < 32, Chk 5 (beatN 5 (N + 576)) := by decide +kernel
theorem c5_19 : ∀ N < 32, Chk 5 (beatN 5 (N + 608)) := by decide +kernel
theorem c5_20 : ∀ N < 32, Chk 5 (beatN 5 (N + 640)) := by decide +kernel
theorem c5_21 : ∀ N < 32, Chk 5 (beatN 5 (N + 672)) := by decide +kernel
theorem c5_22 : ∀ N < 32, Chk 5 (beatN 5 (N + 704)) := by decide +kernel
theorem c5_23 : ∀ N < 32, Chk 5 (beatN 5 (N + 736)) := by decide +kernel
theorem c5_24 : ∀ N < 32, Chk 5 (beatN 5 (N + 768)) := by decide +kernel
theorem c5_25 : ∀ N < 32, Chk 5 (beatN 5 (N + 800)) := by decide +kernel
theorem c5_26 : ∀ N < 32, Chk 5 (beatN 5 (N + 832)) := by decide +kernel
theorem c5_27 : ∀ N < 32, Chk 5 (beatN 5 (N + 864)) := by decide +kernel
theorem c5_28 : ∀ N < 32, Chk 5 (beatN 5 (N + 896)) := by decide +kernel
theorem c5_29 : ∀ N < 32, Chk 5 (beatN 5 (N + 928)) := by decide +kernel
theorem c5_30 : ∀ N < 32, Chk 5 (beatN 5 (N + 960)) := by decide +kernel
theorem c5_31 : ∀ N < 32, Chk 5 (beatN 5 (N + 992)) := by decide +kernel
theorem c5 (N : Nat) (h : N < 1024) : Chk 5 (beatN 5 N) := by
  have hj : N / 32 < 32 := by omega
  have hr : N % 32 < 32 := by omega
  have e : N = N % 32 + 32 * (N / 32) := by omega
  rw [e]
  generalize N % 32 = r at hr
  generalize N / 32 = j at hj
  match j, hj with
  | 0, _ => exact c5_0 r hr
  | 1, _ => exact c5_1 r hr
  | 2, _ => exact c5_2 r hr
  | 3, _ => exact c5_3 r hr
  | 4, _ => exact c5_4 r hr
  | 5, _ => exact c5_5 r hr
  | 6, _ => exact c5_6 r hr
  | 7, _ => exact c5_7 r hr
  | 8, _ => exact c5_8 r hr
  | 9, _ => exact c5_9 r hr
  | 10, _ => exact c5_10 r hr
  | 11, _ => exact c5_11 r hr
  | 12, _ => exact c5_12 r hr
  | 13, _ => exact c5_13 r hr
  | 14, _ => exact c5_14 r hr
  | 15, _ => exact c5_15 r hr
  | 16, _ => exact c5_16 r hr
  | 17, _ => exact c5_17 r hr
  | 18, _ => exact c5_18 r hr
  | 19, _ => exact c5_19 r hr
  | 20, _ => exact c5_20 r hr
  | 21, _ => exact c5_21 r hr
  | 22, _ => exact c5_22 r hr
  | 23, _ => exact c5_23 r hr
  | 24, _ => exact c5_24 r hr
  | 25, _ => exact c5_25 r hr
  | 26, _ => exact c5_26 r hr
  | 27, _ => exact c5_27 r hr
  | 28, _ => exact c5_28 r hr
  | 29, _ => exact c5_29 r hr
  | 30, _ => exact c5_30 r hr
  | 31, _ => exact c5_31 r hr
  | _ + 32, h => omega
theorem law_good (M N : Nat) (h1 : 2 ≤ M) (h2 : M ≤ 5) (h3 : N < 2 ^ (pairsN M).length) : ((beatN M N).Nodup ∧ (∀ p ∈ beatN M N, p.1 < M ∧ p.2 < M) ∧ (beatN M N).length ≤ 10) ∧ Good M (beatN M N) := by
  refine ⟨beat_facts N h2, Chk.good (by omega) ?_⟩
  have : M = 2 ∨ M = 3 ∨ M = 4 ∨ M = 5 := by omega
  rcases this with rfl | rfl | rfl | rfl
  · exact c2 N (Nat.lt_of_lt_of_le h3 (by decide))
  · exact c3 N (Nat.lt_of_lt_of_le h3 (by decide))
  · exact c4 N (Nat.lt_of_lt_of_le h3 (by decide))
  · exact c5 N (Nat.lt_of_lt_of_le h3 (by decide))
end Mine

namespace Mine
open PySem.Challenge (pw_gf0002_01)

/-- what the law's run leans on: the module's names, its defs, two tables of code -/
structure Kit (W : Wd) (mg : Str → Option Value) : Prop where
  O : WOk W mg
  sum : mg "sum" = none
  range : mg "range" = none
  abs : mg "abs" = none
  len : mg "len" = none
  enumerate : mg "enumerate" = none
  list : mg "list" = none
  dict : mg "dict" = none
  max : mg "max" = none
  add : mg "add_callers" = some (.ref 21)
  count : mg "count_calls" = some (.ref 28)
  i2d : mg "_int2digits" = some (.ref 35)
  d2i : mg "_digits2int" = some (.ref 42)
  orders : mg "_law_orders" = some (.ref 47)
  row : mg "_law_row" = some (.ref 52)
  fadd : FnP W 1 21 "add_callers" (.ref 20)
  fcount : FnP W 2 28 "count_calls" (.ref 27)
  fi2d : FnP W 4 35 "_int2digits" (.ref 34)
  fd2i : FnP W 5 42 "_digits2int" (.ref 41)
  forders : FnP W 7 47 "_law_orders" (.ref 46)
  frow : FnP W 8 52 "_law_row" (.ref 51)
  m₁ : Mk W mg 34 30
  m₂ : Mk W mg 41 37

theorem law_all {W : Wd} {A : Around} {mg : Str → Option Value} {L f : Addr} {q : Str} {cd : Value} {ns : List Int} {bad md : List Addr} {s : Shared} {Q : Flow → Shared → Prop} {E : Value → Shared → Prop} (K : Kit W mg) (rm : Room A 12)
    (hO : OwnIn (envOfC q (defAt pw_gf0002_01 9).2.2 L f cd) md) (hP₁o : ¬ Own (envOfC q (defAt pw_gf0002_01 9).2.2 L f cd) 30) (hP₂o : ¬ Own (envOfC q (defAt pw_gf0002_01 9).2.2 L f cd) 37)
    (F : FS (envOfC q (defAt pw_gf0002_01 9).2.2 L f cd) bad [("script", .list (ns.map PyData.int))] s.heap) (B : Bs W bad s.heap) (hm : ∀ b ∈ md, b ∈ bad)
    (hP₁b : 30 ∈ bad) (hP₁ : s.heap.get? 30 = some (tabObj #[])) (hP₂b : 37 ∈ bad) (hP₂ : s.heap.get? 37 = some (tabObj #[])) (hP₁m : 30 ∉ md) (hP₂m : 37 ∉ md)
    (k : ∀ h' tk, Keep (30 :: 37 :: md) s.heap h' → (∃ ps, h'.get? 30 = some (tabObj ps)) → (∃ ps, h'.get? 37 = some (tabObj ps)) → Q (.ret (.bool true)) { s with heap := h', toks := tk }) :
    wpAny (model W.prog W.w) A (execs (defAt pw_gf0002_01 9).2.1 (envOfC q (defAt pw_gf0002_01 9).2.2 L f cd)) Q E s := by
  obtain ⟨hM2, hM⟩ := many_le ns.sum
  have hN := num_lt ns.sum
  obtain ⟨⟨b1, b2, b3⟩, hG⟩ := law_good (manyOf ns.sum) (numOf ns.sum) hM2 hM hN
  refine law_1 K.O rm.hd K.sum K.range K.abs K.len hO F B hm fun h₁ tk₁ F₁ B₁ K₁ => ?_
  refine law_2 K.O rm hM hN hM2 K.m₁ K.m₂ K.fi2d K.fd2i K.i2d K.d2i K.len K.enumerate hO hP₁o hP₂o (by decide) F₁ B₁ hm hP₁b (K₁ _ _ hP₁m hP₁) hP₂b (K₁ _ _ hP₂m hP₂) hP₂m hP₁m fun h₂ tk₂ F₂ B₂ K₂ p₁ p₂ => ?_
  refine law_3 K.O rm hM b3 b1 b2 K.fadd K.fcount K.add K.count K.list K.range hO F₂ B₂ hm fun h₃ tk₃ F₃ B₃ K₃ => ?_
  refine law_4 K.O rm hM hM2 b3 hG K.sum K.len hO F₃ B₃ hm fun h₄ tk₄ F₄ B₄ K₄ => ?_
  refine law_5 K.O rm hM hM2 b3 hG K.sum K.len K.range K.forders K.frow K.orders K.row hO F₄ B₄ hm fun h₅ tk₅ F₅ B₅ K₅ => ?_
  refine law_6 K.O rm hM hM2 b3 hG K.len K.dict K.max hO F₅ B₅ hm fun h₆ tk₆ B₆ K₆ => ?_
  have K26 : Keep md h₂ h₆ := ((K₃.trans K₄).trans K₅).trans K₆
  have mm : ∀ {h h'}, Keep md h h' → Keep (30 :: 37 :: md) h h' := fun K => K.more fun b hb => List.mem_cons_of_mem _ (List.mem_cons_of_mem _ hb)
  exact k h₆ tk₆ (((mm K₁).trans K₂).trans (mm K26)) (let ⟨ps, e⟩ := p₁; ⟨ps, K26 _ _ hP₁m e⟩) (let ⟨ps, e⟩ := p₂; ⟨ps, K26 _ _ hP₂m e⟩)

/-- a def of the module's top, from a heap written out -/
theorem fnIs_of {W : Wd} {K : Frag} (X : K.In W.base) {f c : Addr} {o oc : Obj} {fd : FuncData} {q : Str} {params : List Str} {body : List Stmt} {scope : Scope} {vs : Array Value} {t : Tok} (e1 : K.lookup f = some o) (e2 : o.data = .func fd) (e3 : fd.body = .stmts body) (e4 : fd.scope = scope) (e5 : fd.globals = mainGlobals) (e6 : fd.closure = [])
    (e7 : fd.qualname = q) (e8 : fd.code = .ref c) (e9 : fd.builtins = builtinsNs) (hb : ∀ vs : List Value, vs.length = params.length → bindArgs fd ⟨vs, []⟩ = pure (params.zip vs)) (c1 : K.lookup c = some oc) (c2 : oc.data = .fields vs) (c3 : vs[1]? = some (.str q t))
    (k1 : scope.kind = .function) (k2 : scope.isGenerator = false) (k3 : scope.isCoroutine = false) (k4 : ∀ x ∈ params, scope.names.lookup x = some .local ∨ scope.names.lookup x = some .cell) : FnIs W f q (.ref c) params body scope :=
  ⟨⟨o, fd, X _ _ e1, e2, e3, e4, e5, e6, e7, e8, e9, hb⟩, ⟨c, oc, vs, t, rfl, X _ _ c1, c2, c3⟩, k1, k2, k3, k4⟩
/-- a name of the module's, from a heap written out -/
theorem mg_of {W : Wd} {K : Frag} {mg : Str → Option Value} (X : K.In W.base) (g : W.base.Ns mainGlobals mg) {o : Obj} {es : Array DictEntry} {n : Nat} (e1 : K.lookup mainGlobals = some o) (e2 : o.data = .dict es n) (x : Str) : mg x = nsFind es x := by
  obtain ⟨o', es', ep, h1, h2, _, h3⟩ := g
  rw [X _ _ e1] at h1; cases h1
  rw [e2] at h2; cases h2
  exact (h3 x).symm
end Mine

namespace Mine
open PySem.Challenge (pw_gf0002_01)

theorem cellsAre_mem {cm : Str → Option Value} : ∀ {cs : List (Str × Addr)} {cells : List (Addr × Obj)}, CellsAre cm cs cells → ∀ y c, (y, c) ∈ cs → ∃ o, (c, o) ∈ cells ∧ o.data = .cell (cm y)
  | _, _, .nil, _, _, h => nomatch h
  | _, _, .cons (o := o) e r, y, c, h => by
    rcases List.mem_cons.mp h with h | h
    · cases h; exact ⟨o, List.mem_cons_self, e⟩
    · obtain ⟨o', h1, h2⟩ := cellsAre_mem r y c h
      exact ⟨o', List.mem_cons_of_mem _ h1, h2⟩
theorem well_ints {P : Params} {h : Heap} : ∀ {vs : List Value} {ns : List Int} {ds : List WData}, ofPys (ns.map PyData.int) = ds → WellAll P h vs ds → ∀ h', Rps h' vs (ns.map PyData.int)
  | _, [], _, e, w, _ => by
    simp only [List.map_nil, ofPys] at e
    subst e
    cases w; exact .nil
  | _, n :: ns, _, e, w, h' => by
    simp only [List.map_cons, ofPys, ofPy] at e
    subst e
    cases w with
    | cons w1 w2 =>
      cases w1
      exact .cons (.int _ _) (well_ints rfl w2 h')

theorem run {w : World} {prog : Program} {s₁ : Shared} {h₁ : Heap} {tk : Tok} {mg m cm : Str → Option Value} {f : Addr} {q : Str} {cd : Value} {a : Addr} {ns : List Int} {cells news : List (Addr × Obj)} {Q : Flow → Shared → Prop} {E : Value → Shared → Prop}
    (K : Kit ⟨prog, w, ghostOf s₁.heap [(41, 37), (34, 30)]⟩ mg) (hT : TabsAt [(41, 37), (34, 30)] s₁.heap) (F : Fr (ghostOf s₁.heap [(41, 37), (34, 30)]) s₁.heap.objs.size h₁ m) (hms : m "script" = some (.ref a))
    (w1 : Well w.params s₁.heap (.ref a) (ofPy (.list (ns.map PyData.int)))) (C : CellsAre cm (cellsFrom (s₁.heap.objs.size + 1) (defAt pw_gf0002_01 9).2.2.names []) cells) (N : News (ghostOf s₁.heap [(41, 37), (34, 30)]) s₁.heap.objs.size h₁ news)
    (hcn : ∀ p ∈ cells, p ∈ news) (h37 : (37, tabObj #[]) ∈ news) (h30 : (30, tabObj #[]) ∈ news)
    (k : ∀ h' tk', (∀ b o, (ghostOf s₁.heap [(41, 37), (34, 30)]).get? b = some o → h'.get? b = some o) → (∃ ps, h'.get? 37 = some (tabObj ps)) → (∃ ps, h'.get? 30 = some (tabObj ps)) → Q (.ret (.bool true)) { heap := h', gens := s₁.gens, drawn := s₁.drawn, toks := tk', os := s₁.os }) :
    wpAny (model prog w) (callerA.deeper (envOfC q (defAt pw_gf0002_01 9).2.2 s₁.heap.objs.size f cd)) (execs (defAt pw_gf0002_01 9).2.1 (envOfC q (defAt pw_gf0002_01 9).2.2 s₁.heap.objs.size f cd)) Q E
      { heap := h₁, gens := s₁.gens, drawn := s₁.drawn, toks := tk, os := s₁.os } := by
  have okc := cellsFrom_ok (defAt pw_gf0002_01 9).2.2.names (s₁.heap.push { cls := .none, data := .plain }) (s₁.heap.push { cls := .none, data := .plain }).objs.size [] ⟨fun _ _ hm => (nomatch hm), List.Pairwise.nil⟩ (Nat.le_refl _)
  rw [Heap.size_push] at okc
  have hbs : ∀ b o, (ghostOf s₁.heap [(41, 37), (34, 30)]).get? b = some o → b < s₁.heap.objs.size ∧ b ∉ [37, 30] := fun b o e => by
    have := cut_get e
    exact ⟨Heap.lt_size this.1, this.2⟩
  have l37 : 37 < s₁.heap.objs.size := Heap.lt_size (hT (41, 37) List.mem_cons_self).2
  have l30 : 30 < s₁.heap.objs.size := Heap.lt_size (hT (34, 30) (List.mem_cons_of_mem _ List.mem_cons_self)).2
  have mdge : ∀ b ∈ mdFn (defAt pw_gf0002_01 9).2.2 s₁.heap.objs.size, s₁.heap.objs.size ≤ b := fun b hb => by
    rcases List.mem_cons.mp hb with rfl | hb
    · exact Nat.le_refl _
    · obtain ⟨⟨y, c⟩, hm, rfl⟩ := List.mem_map.mp hb
      have := (okc.empty y c hm).2
      omega
  have mdst : ∀ b ∈ mdFn (defAt pw_gf0002_01 9).2.2 s₁.heap.objs.size, ∃ o, h₁.get? b = some o := fun b hb => by
    rcases List.mem_cons.mp hb with rfl | hb
    · obtain ⟨o, _, _, e, _⟩ := F.ns; exact ⟨o, e⟩
    · obtain ⟨⟨y, c⟩, hm, rfl⟩ := List.mem_map.mp hb
      obtain ⟨o, ho, _⟩ := cellsAre_mem C y c hm
      exact ⟨o, (N _ (hcn _ ho)).1⟩
  have hOI : OwnIn (envOfC q (defAt pw_gf0002_01 9).2.2 s₁.heap.objs.size f cd) (mdFn (defAt pw_gf0002_01 9).2.2 s₁.heap.objs.size) := own_in
  have hOb : ∀ b, Own (envOfC q (defAt pw_gf0002_01 9).2.2 s₁.heap.objs.size f cd) b → b ∈ mdFn (defAt pw_gf0002_01 9).2.2 s₁.heap.objs.size := fun b hb => hb.elim (fun q => q ▸ hOI.l) fun ⟨y, q⟩ => hOI.c y b q
  have no37 : 37 ∉ mdFn (defAt pw_gf0002_01 9).2.2 s₁.heap.objs.size := fun q => absurd (mdge _ q) (Nat.not_le.mpr l37)
  have no30 : 30 ∉ mdFn (defAt pw_gf0002_01 9).2.2 s₁.heap.objs.size := fun q => absurd (mdge _ q) (Nat.not_le.mpr l30)
  have t37 := (N _ h37).1
  have t30 := (N _ h30).1
  have B : Bs ⟨prog, w, ghostOf s₁.heap [(41, 37), (34, 30)]⟩ (mdFn (defAt pw_gf0002_01 9).2.2 s₁.heap.objs.size ++ [37, 30]) h₁ := fun b o e => by
    obtain ⟨h1, h2⟩ := hbs b o e
    refine hideAll_get _ (F.keep b o e) fun q => ?_
    rcases List.mem_append.mp q with q | q
    · exact absurd (mdge _ q) (Nat.not_le.mpr h1)
    · exact h2 q
  have hrp : Rp (cut h₁ (mdFn (defAt pw_gf0002_01 9).2.2 s₁.heap.objs.size ++ [37, 30])) (.ref a) (.list (ns.map PyData.int)) := by
    simp only [ofPy] at w1
    cases w1 with
    | list e wa =>
      have h37' : a ≠ 37 := fun q => by
        have := (hT (41, 37) List.mem_cons_self).2
        rw [q] at e; rw [e] at this; cases this
      have h30' : a ≠ 30 := fun q => by
        have := (hT (34, 30) (List.mem_cons_of_mem _ List.mem_cons_self)).2
        rw [q] at e; rw [e] at this; cases this
      have hg : (ghostOf s₁.heap [(41, 37), (34, 30)]).get? a = some _ := hideAll_get _ e fun q => by
        have q' : a = 37 ∨ a = 30 := by simpa using q
        exact q'.elim h37' h30'
      exact .list (B _ _ hg) (well_ints rfl wa _)
  have F0 : FS (envOfC q (defAt pw_gf0002_01 9).2.2 s₁.heap.objs.size f cd) (mdFn (defAt pw_gf0002_01 9).2.2 s₁.heap.objs.size ++ [37, 30]) [("script", .list (ns.map PyData.int))] h₁ := by
    refine ⟨fun b hb => ?_, List.mem_append.mpr (.inl List.mem_cons_self), fun y c e => ⟨List.mem_append.mpr (.inl (hOI.c y c e)), ?_⟩, fun x y c ex ey => name_of_addr okc.apart (mem_of_lookup ex) (mem_of_lookup ey), ⟨m, F.ns, fun x d e k => ?_⟩, fun x d e k => ?_⟩
    · rcases List.mem_append.mp hb with hb | hb
      · exact mdst b hb
      · simp only [List.mem_cons, List.not_mem_nil, or_false] at hb
        rcases hb with rfl | rfl
        · exact ⟨_, t37⟩
        · exact ⟨_, t30⟩
    · obtain ⟨o, ho, hd⟩ := cellsAre_mem C y c (mem_of_lookup e)
      exact ⟨_, o, (N _ (hcn _ ho)).1, hd⟩
    · rw [cx_cons] at e
      by_cases hx : x = "script"
      · rw [if_pos hx] at e; cases e; rw [hx]; exact ⟨_, hms, hrp⟩
      · rw [if_neg hx] at e; cases e
    · rw [cx_cons] at e
      by_cases hx : x = "script"
      · subst hx
        have hk : (envOfC q (defAt pw_gf0002_01 9).2.2 s₁.heap.objs.size f cd).kindOf "script" = some .local := rfl
        rw [hk] at k
        rcases k with k | k <;> cases k
      · rw [if_neg hx] at e; cases e
  refine law_all (W := ⟨prog, w, ghostOf s₁.heap [(41, 37), (34, 30)]⟩) K ⟨rfl, by show 1 + claimMargin + 1 + 12 < recursionLimit; decide, by show 4 + 3 + 8 * 12 + 200 < cLine; decide⟩ hOI (fun q => no30 (hOb _ q)) (fun q => no37 (hOb _ q)) F0 B (fun b hb => List.mem_append.mpr (.inl hb)) (by simp) t30 (by simp) t37 no30 no37 fun h' tk' K' p30 p37 => ?_
  refine k h' tk' (fun b o e => K' b o (fun q => ?_) (F.keep b o e)) p37 p30
  obtain ⟨h1, h2⟩ := hbs b o e
  rcases List.mem_cons.mp q with rfl | q
  · exact h2 (by simp)
  · rcases List.mem_cons.mp q with rfl | q
    · exact h2 (by simp)
    · exact absurd (mdge _ q) (Nat.not_le.mpr h1)
end Mine

namespace Mine
open PySem.Challenge (pw_gf0002_01)
open_top hd for PySem.Challenge.rw_gf0002_01

theorem kit_of {W : Wd} {P : Params} {mg mb : Str → Option Value} {loose : List Str} {mean : ExcName → Option Value} (X : (hd.heap_39 P).In W.base) (T : Top topProg loose mean mg mb W.base) (h30 : W.base.get? 30 = none) (h37 : W.base.get? 37 = none) (c₁ : CodeHd W.base 34 30) (c₂ : CodeHd W.base 41 37) : Kit W mg := by
  have O : WOk W mg := ⟨T.g, ⟨mb, T.b, T.builtins⟩, T.nolimit⟩
  have nm : ∀ x v, _ → mg x = v := fun x v e => (mg_of (K := hd.heap_39 P) X T.g rfl rfl x).trans e
  have bmn : ∀ Pl, W.base.get? Pl = none → W.base.BuiltinsAt mg Pl := fun Pl hP => by
    obtain ⟨bm, ob, b1, b2, b3, b4, b5, b6⟩ := T.bmain
    refine ⟨bm, ob, b1, b2, fun q => ?_, fun q => ?_, b3, b4, b5, b6⟩
    rotate_left
    · rw [q, hP] at b3; cases b3
    obtain ⟨o, _, _, e, hd, _⟩ := T.g
    rw [q, e] at b3; cases b3; rw [hd] at b6; cases b6
  have gp : ∀ Pl, W.base.get? Pl = none → mainGlobals ≠ Pl := fun Pl hP q => by
    obtain ⟨o, _, _, e, _⟩ := T.g
    rw [q, hP] at e; cases e
  refine ⟨O, nm _ _ ?_, nm _ _ ?_, nm _ _ ?_, nm _ _ ?_, nm _ _ ?_, nm _ _ ?_, nm _ _ ?_, nm _ _ ?_, nm _ _ ?_, nm _ _ ?_, nm _ _ ?_, nm _ _ ?_, nm _ _ ?_, nm _ _ ?_, ?_, ?_, ?_, ?_, ?_, ?_, ⟨c₁, bmn 30 h30, gp 30 h30⟩, ⟨c₂, bmn 37 h37, gp 37 h37⟩⟩
  iterate 14 (· rfl)
  · exact fnIs_of (K := hd.heap_39 P) X (f := 21) (c := 20) rfl rfl rfl rfl rfl rfl rfl rfl rfl (fun vs h => by match vs, h with | [_, _], _ => rfl) rfl rfl rfl rfl rfl rfl (by decide)
  · exact fnIs_of (K := hd.heap_39 P) X (f := 28) (c := 27) rfl rfl rfl rfl rfl rfl rfl rfl rfl (fun vs h => by match vs, h with | [_], _ => rfl) rfl rfl rfl rfl rfl rfl (by decide)
  · exact fnIs_of (K := hd.heap_39 P) X (f := 35) (c := 34) rfl rfl rfl rfl rfl rfl rfl rfl rfl (fun vs h => by match vs, h with | [_, _], _ => rfl) rfl rfl rfl rfl rfl rfl (by decide)
  · exact fnIs_of (K := hd.heap_39 P) X (f := 42) (c := 41) rfl rfl rfl rfl rfl rfl rfl rfl rfl (fun vs h => by match vs, h with | [_, _], _ => rfl) rfl rfl rfl rfl rfl rfl (by decide)
  · exact fnIs_of (K := hd.heap_39 P) X (f := 47) (c := 46) rfl rfl rfl rfl rfl rfl rfl rfl rfl (fun vs h => by match vs, h with | [_], _ => rfl) rfl rfl rfl rfl rfl rfl (by decide)
  · exact fnIs_of (K := hd.heap_39 P) X (f := 52) (c := 51) rfl rfl rfl rfl rfl rfl rfl rfl rfl (fun vs h => by match vs, h with | [_, _], _ => rfl) rfl rfl rfl rfl rfl rfl (by decide)
end Mine

namespace Mine
theorem post_true (as bs : List WData) : PySem.Challenge.rw_gf0002_01.row.toRowW.claim.post as (.bool true) bs = true := by
  show (WShape.has [] (.bool true) .bool && WTm.holds [] (.eq .res (.lit (.bool true))) { args := as, res := some (.bool true), after := bs }) = true
  rw [Bool.and_eq_true]
  refine ⟨?_, ?_⟩
  · first | rfl | simp [WShape.has, WShape.arms]
  · simp [WTm.holds, WTm.value, W.same]
end Mine

namespace Mine
theorem ghost_none {h : Heap} {b : Addr} (hb : b = 30 ∨ b = 37) : (ghostOf h [(41, 37), (34, 30)]).get? b = none := hideAll_none _ (by rcases hb with rfl | rfl <;> simp)
end Mine

set_option maxHeartbeats 8000000 in
theorem PySem.Challenge.cw_gf0002_01_holds : PySem.Challenge.rw_gf0002_01.Holds :=
  Mine.hd (by
  k_go0
  all_goals (try k_fold)
  rename_i X0 X' T' K' F' c41 N' l0
  refine Mine.run (mg := _) (Mine.kit_of X' T' (Mine.ghost_none (.inl rfl)) (Mine.ghost_none (.inr rfl)) codeHd c41) (by assumption) F' rfl (by assumption) X0 N' (by simp) (by simp) (by simp) fun h' tk' k1 k2 k3 => ?_
  refine ⟨⟨.inl ⟨.bool true, .bool true, [], rfl, fun _ => rfl, .bool true, ?_, fun _ => ⟨List.nodup_nil, fun _ h => nomatch h⟩⟩, k1, rfl, by assumption⟩, k2, k3, trivial⟩
  exact Mine.post_true _ _)
