import PyProof.Rows.All
import Wide.All
import OpenK.AllK
import Wide.FinOn
import KE.KLam
import PySem.Challenge.RW_ij0008_01
set_option Elab.async false
section
open PySem PySem.W PySem.W.X PySem.W.ZRun PyProof.Rows
namespace Mine
/-- the text without the three statements that make the class and its names -/
noncomputable def topView : Program := { PySem.Challenge.rw_ij0008_01.row.prog with main := { PySem.Challenge.rw_ij0008_01.row.prog.main with body := PySem.Challenge.rw_ij0008_01.row.prog.main.body.filter fun s => match s with | .ClassDef .. => false | .Assign _ (.Name ..) _ => false | _ => true } }
/-- the top from the boot's heap on, which the library has proved; the run and the look by the library's quick twins -/
theorem left_boot {p q : Program} {loose : List Str} {Xt : Shared → Bool} {α : Type} {Yf : Shared → α} {Ya : World → α} {N m₀ : Nat} {ann : Option Value} (e : opening p = plainProg p.main.scope.names) (hN : Nat.ble 600 N = true) (f : ∀ s, fenceModules? p s = some s)
    (size : ∀ w : World, ((boot_heap w.params).isNs mainGlobals, (boot_heap w.params).objs.size, (boot_heap w.params).nsMap mainGlobals "__annotations__") = (true, m₀, ann))
    (h : ∀ (w : World) (os : OsState), (Fast.tw14082659384304107361 Fast.tw14364793385576792824 p w m₀ ann N ⟨boot_heap w.params, Array.mk [], boot_drawn, boot_toks, os⟩ (topStub p)).map (fun s => (staticsOk (importedModules p.main.body) (boot_heap w.params) s.heap && namesBound p s.heap && gensDone s && laidKept (boot_heap w.params) s.heap,
      Fast.tw4187177175401517315 q loose (importedModules p.main.body) Xt true s, Yf s)) = some (true, openGood q loose, Ya w)) : LeftO p q loose Xt Yf Ya N := fun w => by
  obtain ⟨⟨hp, gs, d, k, os⟩, hs, hv⟩ := Option.map_eq_some_iff.mp (boot_open e hN f w)
  cases hv
  obtain ⟨z1, z2⟩ := Prod.mk.inj (size w)
  obtain ⟨z2, z3⟩ := Prod.mk.inj z2
  rw [← Fast.te14082659384304107361, ← Fast.te14364793385576792824, ← Fast.te4187177175401517315] at h
  obtain ⟨s, r, v⟩ := Option.map_eq_some_iff.mp (h w os)
  obtain ⟨v1, v2⟩ := Prod.mk.inj v
  show ((fencedOpening treeTable p w N).bind (topFrom treeTable p w N)).map _ = _
  rw [hs]
  show (topFrom treeTable p w N ⟨boot_heap w.params, Array.mk [], boot_drawn, boot_toks, os⟩).map _ = _
  have t : topFrom treeTable p w N ⟨boot_heap w.params, Array.mk [], boot_drawn, boot_toks, os⟩ = some s := by
    show (match (boot_heap w.params).isNs mainGlobals && true with
      | true => (topRun treeTable p w (boot_heap w.params).objs.size ((boot_heap w.params).nsMap mainGlobals "__annotations__") N ⟨boot_heap w.params, Array.mk [], boot_drawn, boot_toks, os⟩ (topStub p)).bind fun s₁ => match staticsOk (importedModules p.main.body) (boot_heap w.params) s₁.heap && namesBound p s₁.heap && gensDone s₁ && laidKept (boot_heap w.params) s₁.heap with
        | true => some s₁
        | false => none
      | false => none) = some s
    rw [z1, z2, z3, r]
    show (match staticsOk (importedModules p.main.body) (boot_heap w.params) s.heap && namesBound p s.heap && gensDone s && laidKept (boot_heap w.params) s.heap with | true => some s | false => none) = _
    rw [v1]
  rw [t]
  exact congrArg some v2
end Mine
local macro_rules | `(tactic| k_head) => `(tactic| x_head)
local macro_rules | `(tactic| o_head (kHook $K $a $_)) => `(tactic| (
  refine holds_openX (q := Mine.topView) (loose := [Str.ofString "_tuplegetter", Str.ofString "Mismatch", Str.ofString "_Mismatch"])
    (Xt := fun s => xlAt Mine.topView [] s && recOk PySem.Challenge.rw_ij0008_01.row.records s) (XP := XL Mine.topView []) (Yf := obsZ $a) (Ya := valZ $K 208 486) (N := 3692) ?hl
    (fun s e => xl_of s (Bool.and_eq_true_iff.mp e).1) XL.keeps (by rfl) (by rfl) (by rfl) (fun s e => recFacts_of (Bool.and_eq_true_iff.mp e).2) (by rfl) (by assumption) (by decide +kernel) ⟨rfl, rfl, rfl, rfl, rfl, by decide +kernel⟩ ?hw ?hc
  (case hl => exact Mine.left_boot (m₀ := 11) (ann := some (.ref 6)) (by kernel_rfl) (by kernel_rfl) (fun _ => by kernel_rfl) (fun _ => by kernel_rfl) (fun _ _ => by kernel_rfl))))
namespace Mine
set_option maxRecDepth 100000 in
set_option maxHeartbeats 0 in
open_top hd for PySem.Challenge.rw_ij0008_01
end Mine
end
section
open PySem PySem.W PySem.W.X PyProof.Rows
set_option maxRecDepth 100000
namespace Mine
noncomputable def tabsAt : List Addr := [8, 12, 16, 23, 30, 37, 51, 59, 66, 73, 87, 105, 112, 123, 130, 137, 144, 168, 175, 182, 187, 192, 197, 204]
/-- the top's objects, but for the tables of codes -/
noncomputable def KZ : { K : Params → Frag // ∀ P, (hd.heap_39 P).filter (fun p => !tabsAt.contains p.1) = K P } :=
  ⟨fun P => _, fun P => by dsimp only [hd.heap_39, List.filter, tabsAt, List.contains, List.elem, Nat.reduceBEq, Bool.not_true, Bool.not_false]⟩
noncomputable abbrev KK (w : World) : Frag := KZ.1 w.params
theorem kx_of {w : World} {s₀ s₁ : Shared} {as : List Addr} {n t : Nat} (e : ∀ P, as = (hd.heap_39 P).map (·.1)) (y : obsZ as s₀ = valZ hd.heap_39 n t w) (k : ∀ b o, s₀.heap.get? b = some o → s₁.heap.get? b = some o) : (hd.heap_39 w.params).In s₁.heap := InK.keeps w s₀.heap s₁.heap (z_facts e y).2.1 k
theorem look_filter {K : Frag} {q : Addr → Bool} {a : Addr} {o : Obj} (h : (K.filter fun p => q p.1).lookup a = some o) : K.lookup a = some o := by
  have q_of : ∀ {K : Frag}, (K.filter fun p => q p.1).lookup a = some o → q a = true := by
    intro K
    induction K with
    | nil => intro h; cases h
    | cons p l ih =>
      obtain ⟨b, x⟩ := p
      intro h
      cases hb : q b with
      | false => rw [List.filter_cons_of_neg (by simp [hb])] at h; exact ih h
      | true =>
        rw [List.filter_cons_of_pos (by simp [hb]), List.lookup_cons] at h
        cases e : a == b with
        | true => rw [show a = b from by simpa using e]; exact hb
        | false => rw [e] at h; exact ih h
  have qa := q_of h
  induction K with
  | nil => cases h
  | cons p l ih =>
    obtain ⟨b, x⟩ := p
    rw [List.lookup_cons]
    cases hb : q b with
    | false =>
      rw [List.filter_cons_of_neg (by simp [hb])] at h
      rw [show (a == b) = false from by simp; intro e; rw [e, hb] at qa; cases qa]
      exact ih h
    | true =>
      rw [List.filter_cons_of_pos (by simp [hb]), List.lookup_cons] at h
      cases e : a == b with
      | true => rw [e] at h; exact h
      | false => rw [e] at h; exact ih h
theorem kz_in {w : World} {h : Heap} (X : (hd.heap_39 w.params).In h) : (KK w).In h := fun a o e => X a o (look_filter (q := fun a => !tabsAt.contains a) (by rw [KZ.2]; exact e))
theorem kz_tab {w : World} {h : Heap} (X : (hd.heap_39 w.params).In h) : h.get? 204 = some (tabObj #[]) := X 204 _ (by rfl)
end Mine
end
section
open PySem PySem.W PyProof.Rows
set_option maxRecDepth 100000
namespace Mine

/-! heaps -/
noncomputable abbrev LE (h h' : Heap) : Prop := ∀ b o, h.get? b = some o → h'.get? b = some o
theorem LE.rfl' {h : Heap} : LE h h := fun _ _ e => e
theorem LE.tr {a b c : Heap} (x : LE a b) (y : LE b c) : LE a c := fun _ _ e => y _ _ (x _ _ e)

noncomputable def only (h : Heap) (P : Addr → Bool) : Heap := ⟨h.objs.mapIdx fun i o => if P i then o else { o with data := .freed }, h.life⟩
theorem only_get (h : Heap) (P : Addr → Bool) (a : Addr) : (only h P).get? a = if P a then h.get? a else none := by
  unfold only Heap.get?
  rw [Array.getElem?_mapIdx]
  cases h.objs[a]? with
  | none => cases P a <;> rfl
  | some x => cases hp : P a with
    | true => rfl
    | false => rfl

/-- pure growth: all of h stands in h'; the persistent part g grows to g'; what was private at h stays private -/
structure Stp (g h g' h' : Heap) : Prop where
  le : LE g g'
  le' : LE g' h'
  kp : LE h h'
  sz : h.objs.size ≤ h'.objs.size
  off : ∀ b, b < h.objs.size → g.get? b = none → g'.get? b = none

theorem Stp.refl {g h : Heap} (x : LE g h) : Stp g h g h := ⟨LE.rfl', x, LE.rfl', Nat.le_refl _, fun _ _ e => e⟩
theorem Stp.tr {g h g1 h1 g2 h2 : Heap} (x : Stp g h g1 h1) (y : Stp g1 h1 g2 h2) : Stp g h g2 h2 :=
  ⟨x.le.tr y.le, y.le', x.kp.tr y.kp, Nat.le_trans x.sz y.sz, fun b hb e => y.off b (Nat.lt_of_lt_of_le hb x.sz) (x.off b hb e)⟩

open Classical in
/-- whatever an operation that keeps all objects makes new may be taken as persistent -/
theorem Stp.full {g h h' : Heap} (x : LE g h) (k : LE h h') (hs : h.objs.size ≤ h'.objs.size) :
    ∃ g', Stp g h g' h' ∧ ∀ b o, h.objs.size ≤ b → h'.get? b = some o → g'.get? b = some o := by
  refine ⟨only h' fun b => decide ((g.get? b).isSome ∨ h.objs.size ≤ b), ⟨fun b o e => ?_, fun b o e => ?_, k, hs, fun b hb e => ?_⟩, fun b o hb e => ?_⟩
  · rw [only_get]; simp [e]; exact k _ _ (x _ _ e)
  · rw [only_get] at e; split at e
    · exact e
    · cases e
  · rw [only_get, if_neg]; simp [e, Nat.not_le.mpr hb]
  · rw [only_get]; simp [hb, e]

theorem get_none_of_le {h : Heap} {b : Addr} (hb : h.objs.size ≤ b) : h.get? b = none := by
  cases e : h.get? b with
  | none => rfl
  | some o => exact absurd (Heap.lt_size e) (Nat.not_lt.mpr hb)

theorem Stp.push {g h : Heap} (x : LE g h) (o : Obj) (hf : o.isFreed = false) : ∃ g', Stp g h g' (h.push o) ∧ g'.get? h.objs.size = some o := by
  obtain ⟨g', s, n⟩ := Stp.full x (h' := h.push o) (fun b o' e => Heap.get?_push_of_some _ e) (by rw [Heap.size_push]; lia  )
  exact ⟨g', s, n _ _ (Nat.le_refl _) (Heap.get?_push_size _ hf)⟩

open Classical in
/-- a private object becomes persistent -/
theorem freeze {g h : Heap} {a : Addr} {o : Obj} (x : LE g h) (ha : h.get? a = some o) : ∃ g', LE g g' ∧ LE g' h ∧ g'.get? a = some o ∧ ∀ b, b ≠ a → g'.get? b = g.get? b := by
  refine ⟨only h fun b => decide ((g.get? b).isSome ∨ b = a), fun b o e => ?_, fun b o e => ?_, ?_, fun b hb => ?_⟩
  · rw [only_get]; simp [e]; exact x _ _ e
  · rw [only_get] at e; split at e
    · exact e
    · cases e
  · rw [only_get]; simp [ha]
  · rw [only_get]
    cases e : g.get? b with
    | none => simp [hb]
    | some o' => simp [x _ _ e]

/-! data -/
inductive All2 {α : Type} (R : Value → α → Prop) : List Value → List α → Prop
  | nil : All2 R [] []
  | cons {v x vs xs} : R v x → All2 R vs xs → All2 R (v :: vs) (x :: xs)

section
variable {α β : Type} {R S : Value → α → Prop} {vs ws : List Value} {xs ys : List α}
theorem All2.imp (h : All2 R vs xs) (f : ∀ v x, R v x → S v x) : All2 S vs xs := by
  induction h with
  | nil => exact .nil
  | cons a _ ih => exact .cons (f _ _ a) ih
theorem All2.len (h : All2 R vs xs) : vs.length = xs.length := by
  induction h with
  | nil => rfl
  | cons _ _ ih => simp [ih]
theorem All2.app (h : All2 R vs xs) (k : All2 R ws ys) : All2 R (vs ++ ws) (xs ++ ys) := by
  induction h with
  | nil => exact k
  | cons a _ ih => exact .cons a ih
theorem All2.one {v : Value} {x : α} (h : R v x) : All2 R [v] [x] := .cons h .nil
theorem All2.get (h : All2 R vs xs) {i : Nat} {v : Value} (e : vs[i]? = some v) : ∃ x, xs[i]? = some x ∧ R v x := by
  induction h generalizing i with
  | nil => simp at e
  | cons a _ ih =>
    cases i with
    | zero => simp at e; subst e; exact ⟨_, rfl, a⟩
    | succ i => simp at e; simpa using ih e
theorem All2.get' (h : All2 R vs xs) {i : Nat} {x : α} (e : xs[i]? = some x) : ∃ v, vs[i]? = some v ∧ R v x := by
  induction h generalizing i with
  | nil => simp at e
  | cons a _ ih =>
    cases i with
    | zero => simp at e; subst e; exact ⟨_, rfl, a⟩
    | succ i => simp at e; simpa using ih e
theorem All2.take (h : All2 R vs xs) (n : Nat) : All2 R (vs.take n) (xs.take n) := by
  induction h generalizing n with
  | nil => simp; exact .nil
  | cons a _ ih =>
    cases n with
    | zero => simp; exact .nil
    | succ n => simp; exact .cons a (ih n)
theorem All2.drop (h : All2 R vs xs) (n : Nat) : All2 R (vs.drop n) (xs.drop n) := by
  induction h generalizing n with
  | nil => simp; exact .nil
  | cons a r ih =>
    cases n with
    | zero => exact .cons a r
    | succ n => simp; exact ih n
theorem All2.snoc_inv {v : Value} (h : All2 R (vs ++ [v]) xs) : ∃ ys y, xs = ys ++ [y] ∧ All2 R vs ys ∧ R v y := by
  induction vs generalizing xs with
  | nil => cases h with | cons a r => cases r; exact ⟨[], _, rfl, .nil, a⟩
  | cons u vs ih =>
    cases h with
    | cons a r =>
      obtain ⟨ys, y, rfl, h1, h2⟩ := ih r
      exact ⟨_ :: ys, y, rfl, .cons a h1, h2⟩
theorem All2.map {γ : Type} {T : Value → γ → Prop} {f : α → γ} (h : All2 R vs xs) (k : ∀ v x, R v x → T v (f x)) : All2 T vs (xs.map f) := by
  induction h with
  | nil => exact .nil
  | cons a _ ih => exact .cons (k _ _ a) ih
theorem All2.reverse (h : All2 R vs xs) : All2 R vs.reverse xs.reverse := by
  induction h with
  | nil => exact .nil
  | cons a _ ih => rw [List.reverse_cons, List.reverse_cons]; exact ih.app (.one a)
theorem All2.set (h : All2 R vs xs) {i : Nat} {v : Value} {x : α} (k : R v x) : All2 R (vs.set i v) (xs.set i x) := by
  induction h generalizing i with
  | nil => exact .nil
  | cons a r ih =>
    cases i with
    | zero => exact .cons k r
    | succ i => exact .cons a (ih)
end

noncomputable abbrev lst (vs : List Value) (n : Nat) : Obj := { cls := .type "list", data := .seq vs.toArray n }

noncomputable def IsInt (v : Value) (i : Int) : Prop := ∃ t, v = .int i t
/-- v is a plain list of g whose items stand for xs -/
inductive IsL {α : Type} (g : Heap) (R : Value → α → Prop) (v : Value) (xs : List α) : Prop
  | mk (a : Addr) (vs : List Value) (n : Nat) (e : v = .ref a) (o : g.get? a = some (lst vs n)) (r : All2 R vs xs)
noncomputable abbrev Ints (g : Heap) : Value → List Int → Prop := IsL g IsInt
noncomputable abbrev LL (g : Heap) : Value → List (List Int) → Prop := IsL g (Ints g)
/-- a plain tuple -/
noncomputable abbrev tup (vs : List Value) (n : Nat) : Obj := { cls := .type "tuple", data := .seq vs.toArray n }

theorem IsL.mono {α : Type} {g g' : Heap} {R : Value → α → Prop} {v : Value} {xs : List α} (k : LE g g') (h : IsL g R v xs) : IsL g' R v xs :=
  let ⟨a, vs, n, e, o, r⟩ := h; ⟨a, vs, n, e, k _ _ o, r⟩
theorem IsL.imp {α : Type} {g : Heap} {R S : Value → α → Prop} {v : Value} {xs : List α} (h : IsL g R v xs) (f : ∀ v x, R v x → S v x) : IsL g S v xs :=
  let ⟨a, vs, n, e, o, r⟩ := h; ⟨a, vs, n, e, o, r.imp f⟩
theorem LL.mono {g g' : Heap} {v : Value} {xs : List (List Int)} (k : LE g g') (h : LL g v xs) : LL g' v xs := (IsL.mono k h).imp fun _ _ => IsL.mono k
theorem AllInts.mono {g g' : Heap} {vs : List Value} {xs : List (List Int)} (k : LE g g') (h : All2 (Ints g) vs xs) : All2 (Ints g') vs xs := h.imp fun _ _ => IsL.mono k

theorem intsAre_of {vs : List Value} {xs : List Int} (h : All2 IsInt vs xs) : IntsAre vs xs := by
  induction h with
  | nil => exact .nil
  | cons a _ ih => obtain ⟨t, rfl⟩ := a; exact .cons _ _ ih
theorem of_intsAre {vs : List Value} {xs : List Int} (h : IntsAre vs xs) : All2 IsInt vs xs := by
  induction h with
  | nil => exact .nil
  | cons _ _ _ ih => exact .cons ⟨_, rfl⟩ ih

/-! the state of a body: base heap h₀ with persistent part g₀ at the call; locals L (map m), cells cs (map cm); own: the body's own changing objects; g: persistent part now; h: heap now -/
structure Bd (h₀ g₀ : Heap) (L : Addr) (cs : List (Str × Addr)) (m cm : Str → Option Value) (own : List (Addr × (Obj → Prop))) (g h : Heap) : Prop where
  ns : h.Ns L m
  cell : ∀ n c, cs.lookup n = some c → h.IsCell c (cm n)
  apart : cs.Pairwise fun x y => x.2 ≠ y.2
  above : ∀ n c, (n, c) ∈ cs → L < c
  kp : LE h₀ h
  sz : h₀.objs.size ≤ L
  szh : h₀.objs.size ≤ h.objs.size
  ge : LE g₀ g
  le : LE g h
  off : ∀ b, b < h₀.objs.size → g₀.get? b = none → g.get? b = none
  offL : g.get? L = none
  offC : ∀ n c, cs.lookup n = some c → g.get? c = none
  szC : ∀ n c, cs.lookup n = some c → c < h.objs.size
  has : ∀ p ∈ own, (∃ o, h.get? p.1 = some o ∧ p.2 o) ∧ g.get? p.1 = none ∧ h₀.objs.size ≤ p.1 ∧ p.1 ≠ L ∧ ∀ n c, cs.lookup n = some c → p.1 ≠ c
  nd : own.Pairwise fun x y => x.1 ≠ y.1

section
variable {h₀ g₀ g h g' h' : Heap} {L : Addr} {cs : List (Str × Addr)} {m cm : Str → Option Value} {own : List (Addr × (Obj → Prop))}

/-- a pure step -/
theorem Bd.pure (B : Bd h₀ g₀ L cs m cm own g h) (x : Stp g h g' h') : Bd h₀ g₀ L cs m cm own g' h' where
  ns := B.ns.keeps x.kp
  cell := fun n c e => (B.cell n c e).keeps x.kp
  apart := B.apart
  above := B.above
  kp := B.kp.tr x.kp
  sz := B.sz
  szh := Nat.le_trans B.szh x.sz
  ge := B.ge.tr x.le
  le := x.le'
  off := fun b hb e => x.off b (Nat.lt_of_lt_of_le hb B.szh) (B.off b hb e)
  offL := x.off _ B.ns.lt B.offL
  offC := fun n c e => x.off _ (B.szC n c e) (B.offC n c e)
  szC := fun n c e => Nat.lt_of_lt_of_le (B.szC n c e) x.sz
  has := fun p hp => by
    obtain ⟨⟨o, e, q⟩, r1, r2⟩ := B.has p hp
    exact ⟨⟨o, x.kp _ _ e, q⟩, x.off _ (Heap.lt_size e) r1, r2⟩
  nd := B.nd

/-- the whole body as one pure step of the caller's -/
theorem Bd.exit (B : Bd h₀ g₀ L cs m cm own g h) : Stp g₀ h₀ g h := ⟨B.ge, B.le, B.kp, B.szh, B.off⟩

/-- a name of the frame is stored -/
theorem Bd.setL (B : Bd h₀ g₀ L cs m cm own g h) {m' : Str → Option Value} (hn : h'.Ns L m') (hs : Heap.SameBut L h h') : Bd h₀ g₀ L cs m' cm own g h' where
  ns := hn
  cell := fun n c e => (B.cell n c e).sameBut hs (Nat.ne_of_gt (B.above n c (mem_of_lookup e)))
  apart := B.apart
  above := B.above
  kp := fun b o e => (hs.2 b (Nat.ne_of_lt (Nat.lt_of_lt_of_le (Heap.lt_size e) B.sz))).trans (B.kp b o e)
  sz := B.sz
  szh := hs.1 ▸ B.szh
  ge := B.ge
  le := fun b o e => (hs.2 b (fun q => by rw [q, B.offL] at e; cases e)).trans (B.le b o e)
  off := B.off
  offL := B.offL
  offC := B.offC
  szC := fun n c e => hs.1 ▸ B.szC n c e
  has := fun p hp => by
    obtain ⟨⟨o, e, q⟩, r1, r2, r3, r4⟩ := B.has p hp
    exact ⟨⟨o, (hs.2 _ r3).trans e, q⟩, r1, r2, r3, r4⟩
  nd := B.nd

/-- a cell is stored -/
theorem Bd.setC (B : Bd h₀ g₀ L cs m cm own g h) {x : Str} {c : Addr} {v : Value} (hc : cs.lookup x = some c) (hn : h'.IsCell c (some v)) (hs : Heap.SameBut c h h') :
    Bd h₀ g₀ L cs m (fun y => if y = x then some v else cm y) own g h' where
  ns := B.ns.sameBut hs (Nat.ne_of_lt (B.above x c (mem_of_lookup hc)))
  cell := fun n c' e => by
    by_cases hnx : n = x
    · subst hnx; rw [hc] at e; cases e; simpa using hn
    · rw [if_neg hnx]
      exact (B.cell n c' e).sameBut hs fun q => hnx (name_of_addr B.apart (mem_of_lookup e) (q ▸ mem_of_lookup hc))
  apart := B.apart
  above := B.above
  kp := fun b o e => (hs.2 b (Nat.ne_of_lt (Nat.lt_trans (Nat.lt_of_lt_of_le (Heap.lt_size e) B.sz) (B.above x c (mem_of_lookup hc))))).trans (B.kp b o e)
  sz := B.sz
  szh := hs.1 ▸ B.szh
  ge := B.ge
  le := fun b o e => (hs.2 b (fun q => by rw [q, B.offC x c hc] at e; cases e)).trans (B.le b o e)
  off := B.off
  offL := B.offL
  offC := B.offC
  szC := fun n c e => hs.1 ▸ B.szC n c e
  has := fun p hp => by
    obtain ⟨⟨o, e, q⟩, r1, r2, r3, r4⟩ := B.has p hp
    exact ⟨⟨o, (hs.2 _ (r4 x c hc)).trans e, q⟩, r1, r2, r3, r4⟩
  nd := B.nd

/-- an own object is changed, all else is kept (new objects may stand beside) -/
theorem Bd.setO {p : Obj → Prop} {pre post : List (Addr × (Obj → Prop))} {a : Addr} (B : Bd h₀ g₀ L cs m cm (pre ++ (a, p) :: post) g h) {q : Obj → Prop} {o : Obj}
    (hn : h'.get? a = some o) (hq : q o) (hs : Heap.ExtBut a h h') (hz : h.objs.size ≤ h'.objs.size) : Bd h₀ g₀ L cs m cm (pre ++ (a, q) :: post) g h' := by
  obtain ⟨⟨oa, ea, _⟩, ra1, ra2, ra3, ra4⟩ := B.has (a, p) (by simp)
  have nd := List.pairwise_append.mp B.nd
  have nd2 := List.pairwise_cons.mp nd.2.1
  have up : LE g h' := fun b o e => hs b o (fun q => by rw [q, ra1] at e; cases e) (B.le b o e)
  refine ⟨B.ns.extBut hs (Ne.symm ra3), fun n c e => ?_, B.apart, B.above, fun b o e => hs b o (Nat.ne_of_lt (Nat.lt_of_lt_of_le (Heap.lt_size e) ra2)) (B.kp b o e), B.sz, Nat.le_trans B.szh hz, B.ge, up, B.off, B.offL, B.offC,
    fun n c e => Nat.lt_of_lt_of_le (B.szC n c e) hz, fun p' hp' => ?_, ?_⟩
  · obtain ⟨oc, ec, dc⟩ := B.cell n c e
    exact ⟨oc, hs c oc (Ne.symm (ra4 n c e)) ec, dc⟩
  · rcases List.mem_append.mp hp' with hp' | hp'
    · obtain ⟨⟨o1, e1, q1⟩, r⟩ := B.has p' (List.mem_append_left _ hp')
      exact ⟨⟨o1, hs _ _ (nd.2.2 p' hp' (a, p) (.head _)) e1, q1⟩, r⟩
    · rcases List.mem_cons.mp hp' with rfl | hp'
      · exact ⟨⟨o, hn, hq⟩, ra1, ra2, ra3, ra4⟩
      · obtain ⟨⟨o1, e1, q1⟩, r⟩ := B.has p' (List.mem_append_right _ (.tail _ hp'))
        exact ⟨⟨o1, hs _ _ (Ne.symm (nd2.1 p' hp')) e1, q1⟩, r⟩
  · exact List.pairwise_append.mpr ⟨nd.1, List.pairwise_cons.mpr ⟨nd2.1, nd2.2⟩, fun x hx y hy => by
      rcases List.mem_cons.mp hy with rfl | hy
      · exact nd.2.2 x hx (a, p) (.head _)
      · exact nd.2.2 x hx y (.tail _ hy)⟩

/-- forget some own objects -/
theorem Bd.drop {own' : List (Addr × (Obj → Prop))} (B : Bd h₀ g₀ L cs m cm own g h) (s : own'.Sublist own) : Bd h₀ g₀ L cs m cm own' g h :=
  { B with has := fun p hp => B.has p (s.subset hp), nd := B.nd.sublist s }

/-- an object that is none of the body's is changed -/
theorem Bd.other (B : Bd h₀ g₀ L cs m cm own g h) {C : Addr} (hs : Heap.SameBut C h h') (hC : h₀.objs.size ≤ C) (hg : g.get? C = none) (hL : C ≠ L) (hc : ∀ n c, cs.lookup n = some c → C ≠ c) (ho : ∀ p ∈ own, C ≠ p.1) :
    Bd h₀ g₀ L cs m cm own g h' where
  ns := B.ns.sameBut hs (Ne.symm hL)
  cell := fun n c e => (B.cell n c e).sameBut hs (Ne.symm (hc n c e))
  apart := B.apart
  above := B.above
  kp := fun b o e => (hs.2 b (Nat.ne_of_lt (Nat.lt_of_lt_of_le (Heap.lt_size e) hC))).trans (B.kp b o e)
  sz := B.sz
  szh := hs.1 ▸ B.szh
  ge := B.ge
  le := fun b o e => (hs.2 b (fun q => by rw [q, hg] at e; cases e)).trans (B.le b o e)
  off := B.off
  offL := B.offL
  offC := B.offC
  szC := fun n c e => hs.1 ▸ B.szC n c e
  has := fun p hp => by
    obtain ⟨⟨o, e, q⟩, r⟩ := B.has p hp
    exact ⟨⟨o, (hs.2 _ (Ne.symm (ho p hp))).trans e, q⟩, r⟩
  nd := B.nd

/-- one own object is changed at the end of its life, all else is kept -/
theorem Bd.last {p : Obj → Prop} {pre post : List (Addr × (Obj → Prop))} {a : Addr} (B : Bd h₀ g₀ L cs m cm (pre ++ (a, p) :: post) g h) (hs : Heap.ExtBut a h h') : Bd h₀ g₀ L cs m cm (pre ++ post) g h' := by
  obtain ⟨⟨oa, ea, _⟩, ra1, ra2, ra3, ra4⟩ := B.has (a, p) (by simp)
  have nd := List.pairwise_append.mp B.nd
  have nd2 := List.pairwise_cons.mp nd.2.1
  have B' := B.drop (own' := pre ++ post) (by simp)
  have hn := B.ns.extBut hs (Ne.symm ra3)
  have hce : ∀ n c, cs.lookup n = some c → h'.IsCell c (cm n) := fun n c e => by
    obtain ⟨oc, ec, dc⟩ := B.cell n c e
    exact ⟨oc, hs c oc (Ne.symm (ra4 n c e)) ec, dc⟩
  refine ⟨hn, hce, B.apart, B.above, fun b o e => hs b o (Nat.ne_of_lt (Nat.lt_of_lt_of_le (Heap.lt_size e) ra2)) (B.kp b o e), B.sz, Nat.le_trans B.sz (Nat.le_of_lt hn.lt), B.ge,
    fun b o e => hs b o (fun q => by rw [q, ra1] at e; cases e) (B.le b o e), B.off, B.offL, B.offC, fun n c e => (hce n c e).lt, fun q hq => ?_, B'.nd⟩
  obtain ⟨⟨o1, e1, q1⟩, r⟩ := B'.has q hq
  refine ⟨⟨o1, hs _ _ ?_ e1, q1⟩, r⟩
  rcases List.mem_append.mp hq with hq | hq
  · exact nd.2.2 q hq (a, p) (.head _)
  · exact Ne.symm (nd2.1 q hq)

/-- a new own object -/
theorem Bd.newO (B : Bd h₀ g₀ L cs m cm own g h) {o : Obj} {q : Obj → Prop} (hq : q o) (hf : o.isFreed = false := by rfl) : Bd h₀ g₀ L cs m cm ((h.objs.size, q) :: own) g (h.push o) where
  ns := B.ns.push _
  cell := fun n c e => (B.cell n c e).keeps fun _ _ e => Heap.get?_push_of_some _ e
  apart := B.apart
  above := B.above
  kp := fun _ _ e => Heap.get?_push_of_some _ (B.kp _ _ e)
  sz := B.sz
  szh := by rw [Heap.size_push]; exact Nat.le_succ_of_le B.szh
  ge := B.ge
  le := fun _ _ e => Heap.get?_push_of_some _ (B.le _ _ e)
  off := B.off
  offL := B.offL
  offC := B.offC
  szC := fun n c e => by rw [Heap.size_push]; exact Nat.lt_succ_of_lt (B.szC n c e)
  has := fun p hp => by
    rcases List.mem_cons.mp hp with rfl | hp
    · refine ⟨⟨o, Heap.get?_push_size _ hf, hq⟩, ?_, B.szh, Nat.ne_of_gt B.ns.lt, fun n c e => Nat.ne_of_gt (B.szC n c e)⟩
      cases e : g.get? h.objs.size with
      | none => rfl
      | some o' => exact absurd (Heap.lt_size (B.le _ _ e)) (Nat.lt_irrefl _)
    · obtain ⟨⟨o1, e1, q1⟩, r⟩ := B.has p hp
      exact ⟨⟨o1, Heap.get?_push_of_some _ e1, q1⟩, r⟩
  nd := List.pairwise_cons.mpr ⟨fun p hp => by
    obtain ⟨⟨o1, e1, q1⟩, r⟩ := B.has p hp
    exact Nat.ne_of_gt (Heap.lt_size e1), B.nd⟩

theorem Bd.perm {own' : List (Addr × (Obj → Prop))} (B : Bd h₀ g₀ L cs m cm own g h) (s : own.Perm own') : Bd h₀ g₀ L cs m cm own' g h :=
  { B with has := fun p hp => B.has p (s.mem_iff.mpr hp), nd := (s.pairwise_iff fun hx => Ne.symm hx).mp B.nd }

/-- an own object becomes persistent -/
theorem Bd.freeze {p : Obj → Prop} {pre post : List (Addr × (Obj → Prop))} {a : Addr} (B : Bd h₀ g₀ L cs m cm (pre ++ (a, p) :: post) g h) :
    ∃ g' o, Bd h₀ g₀ L cs m cm (pre ++ post) g' h ∧ LE g g' ∧ g'.get? a = some o ∧ p o ∧ h.get? a = some o := by
  obtain ⟨⟨oa, ea, qa⟩, ra1, ra2, ra3, ra4⟩ := B.has (a, p) (by simp)
  obtain ⟨g', k1, k2, k3, k4⟩ := Mine.freeze B.le ea
  have nd := List.pairwise_append.mp B.nd
  have nd2 := List.pairwise_cons.mp nd.2.1
  have B' := B.drop (own' := pre ++ post) (by simp)
  refine ⟨g', oa, { B' with ge := B.ge.tr k1, le := k2, off := fun b hb e => ?_, offL := ?_, offC := fun n c e => ?_, has := fun q hq => ?_ }, k1, k3, qa, ea⟩
  · rw [k4 b (Nat.ne_of_lt (Nat.lt_of_lt_of_le hb ra2))]; exact B.off b hb e
  · rw [k4 _ (Ne.symm ra3)]; exact B.offL
  · rw [k4 _ (Ne.symm (ra4 n c e))]; exact B.offC n c e
  · have r := B'.has q hq
    refine ⟨r.1, ?_, r.2.2⟩
    rw [k4]
    · exact r.2.1
    · rcases List.mem_append.mp hq with hq | hq
      · exact nd.2.2 q hq (a, p) (.head _)
      · exact Ne.symm (nd2.1 q hq)

/-- an own object may be said by less -/
theorem Bd.weaken {p q : Obj → Prop} {pre post : List (Addr × (Obj → Prop))} {a : Addr} (B : Bd h₀ g₀ L cs m cm (pre ++ (a, p) :: post) g h) (hpq : ∀ o, p o → q o) :
    Bd h₀ g₀ L cs m cm (pre ++ (a, q) :: post) g h := by
  obtain ⟨⟨oa, ea, qa⟩, _⟩ := B.has (a, p) (by simp)
  exact B.setO ea (hpq _ qa) (fun _ _ _ e => e) (Nat.le_refl _)

theorem Bd.at {p : Obj → Prop} {a : Addr} (B : Bd h₀ g₀ L cs m cm own g h) (hm : (a, p) ∈ own) : ∃ o, h.get? a = some o ∧ p o := (B.has _ hm).1
end
end Mine
end
section
open PySem PySem.W PyProof.Rows
set_option maxRecDepth 100000
namespace Mine

/-- the tree runs to its end, raises nothing, and hands on Q -/
structure Wp (prog : Program) (w : World) (A : Around) {α : Type} (t : Sem α) (Q : α → Shared → Prop) (s : Shared) : Prop where of ::
  run : wpAny (model prog w) A t Q (fun _ _ => False) s
structure Cd (prog : Program) (w : World) (A : Around) (c : Code) (R : Result → Shared → Prop) (s : Shared) : Prop where of ::
  run : codeAny (model prog w) A c R s

/-! what is asked behind a step, by name: a walk's terms stay small -/
section
variable (prog : Program) (w : World) (A : Around)
noncomputable abbrev k1 {α β : Type} (t : α → Sem β) (Q : β → Shared → Prop) : α → Shared → Prop := fun a s => Wp prog w A (t a) Q s
noncomputable abbrev k2 {α β γ : Type} (u : Sem β) (t : α → β → Sem γ) (Q : γ → Shared → Prop) : α → Shared → Prop := fun a s => Wp prog w A u (k1 prog w A (t a) Q) s
noncomputable abbrev kU {β : Type} (t : Sem β) (Q : β → Shared → Prop) : Unit → Shared → Prop := fun _ s => Wp prog w A t Q s
noncomputable abbrev kN (Q : Flow → Shared → Prop) : Unit → Shared → Prop := fun _ => Q .next
noncomputable abbrev kR (Q : Flow → Shared → Prop) : Value → Shared → Prop := fun v => Q (.ret v)
noncomputable abbrev kSeq (env : Env) (rest : List Stmt) (Q : Flow → Shared → Prop) : Flow → Shared → Prop := fun f s' => match f with | .next => Wp prog w A (execs rest env) Q s' | f => Q f s'
noncomputable abbrev kIf (env : Env) (body orelse : List Stmt) (Q : Flow → Shared → Prop) : Bool → Shared → Prop := fun b s => match b with | true => Wp prog w A (execs body env) Q s | false => Wp prog w A (execs orelse env) Q s
noncomputable abbrev kC (v : Value) (Q : List Value → Shared → Prop) : List Value → Shared → Prop := fun vs s => Q (v :: vs) s
noncomputable abbrev kArg (u : Sem (List Value)) (Q : List Value → Shared → Prop) : Value → Shared → Prop := fun v s => Wp prog w A u (kC v Q) s
noncomputable abbrev kDo (f0 : Value) (Q : Value → Shared → Prop) : List Value → Shared → Prop := fun vs s => Wp prog w A (call f0 vs) Q s
noncomputable abbrev kCall (f0 : Value) (u : Sem (List Value)) (Q : Value → Shared → Prop) : Value → Shared → Prop := fun f s => f = f0 ∧ Wp prog w A u (kDo prog w A f0 Q) s
noncomputable abbrev kFn2 (a : Addr) (o : Obj) (fd : FuncData) (Q : Value → Shared → Prop) : List Value → Shared → Prop := fun vs s => (s.heap.get? a = some o ∧ o.data = .func fd) ∧ Wp prog w A (call (.ref a) vs) Q s
noncomputable abbrev kFn (a : Addr) (o : Obj) (fd : FuncData) (u : Sem (List Value)) (Q : Value → Shared → Prop) : Value → Shared → Prop := fun f s => f = .ref a ∧ Wp prog w A u (kFn2 prog w A a o fd Q) s
noncomputable abbrev kOut (Q : Value → Shared → Prop) : Flow → Shared → Prop := fun f s' => Q (match f with | .ret v => v | _ => .none) s'
theorem kIf_t {prog : Program} {w : World} {A : Around} {env : Env} {body orelse : List Stmt} {Q : Flow → Shared → Prop} {b : Bool} {s : Shared} (hb : b = true) (h : Wp prog w A (execs body env) Q s) : kIf prog w A env body orelse Q b s := by subst hb; exact h
theorem kIf_f {prog : Program} {w : World} {A : Around} {env : Env} {body orelse : List Stmt} {Q : Flow → Shared → Prop} {b : Bool} {s : Shared} (hb : ¬ b = true) (h : Wp prog w A (execs orelse env) Q s) : kIf prog w A env body orelse Q b s := by
  cases b with
  | true => exact absurd rfl hb
  | false => exact h
end

/-- what is asked of an environment -/
structure Ev (env : Env) (names : List (Str × NameKind)) (L : Addr) (cs : List (Str × Addr)) : Prop where
  kd : env.scope.kind = .function
  nm : env.scope.names = names
  lc : env.locals = L
  cl : env.cells = cs
  gl : env.globals = mainGlobals
  bi : env.builtins = builtinsNs

theorem Ev.kindOf {env : Env} {names : List (Str × NameKind)} {L : Addr} {cs : List (Str × Addr)} (V : Ev env names L cs) (x : Str) : env.kindOf x = names.lookup x := by
  show env.scope.names.lookup x = _
  rw [V.nm]
theorem Ev.quiet {env : Env} {names : List (Str × NameKind)} {L : Addr} {cs : List (Str × Addr)} (V : Ev env names L cs) : interactive env = false := by
  unfold interactive; rw [V.kd]; rfl

/-- the static part of a heap -/
structure Gl (K : Frag) (h : Heap) : Prop where
  X : K.In h
  g : ∃ mg, h.Ns mainGlobals mg
  b : ∃ mb, h.Ns builtinsNs mb ∧ ∀ x : Str, x ≠ "__name__" → mb x = bootBuiltins x
  lim : h.NoLimit
theorem Gl.mono {K : Frag} {h h' : Heap} (G : Gl K h) (k : LE h h') : Gl K h' :=
  ⟨G.X.keeps k, let ⟨m, x⟩ := G.g; ⟨m, x.keeps k⟩, let ⟨m, x, y⟩ := G.b; ⟨m, x.keeps k, y⟩, G.lim.keeps k⟩

noncomputable def upd (m : Str → Option Value) (x : Str) (v : Value) : Str → Option Value := fun y => if y = x then some v else m y
theorem upd_self {m : Str → Option Value} {x : Str} {v : Value} : upd m x v x = some v := if_pos rfl
theorem cell_upd {h : Heap} {c : Addr} {m : Str → Option Value} {x y : Str} {v : Value} (k : h.IsCell c (upd m x v y)) (e : y = x) : h.IsCell c (some v) := by subst e; rwa [upd_self] at k
theorem upd_ne {m : Str → Option Value} {x y : Str} {v : Value} (h : y ≠ x) : upd m x v y = m y := if_neg h
theorem upd_of {m : Str → Option Value} {x y : Str} {v : Value} {r : Option Value} (e : m y = r) (h : y ≠ x := by decide) : upd m x v y = r := (upd_ne h).trans e

theorem cell_updo {h : Heap} {c : Addr} {m : Str → Option Value} {x y : Str} {v : Value} {r : Option Value} (k : h.IsCell c (upd m x v y)) (e : m y = r) (d : y ≠ x := by decide) : h.IsCell c r := by rwa [upd_of e d] at k
section
variable {prog : Program} {w : World} {A : Around} {s : Shared} {hp : Heap} {gs : Array GenState} {dr : Drawn} {tk : Nat} {os : OsState} {env : Env} {names : List (Str × NameKind)} {L : Addr} {cs cs' : List (Str × Addr)} {h₀ g₀ g : Heap} {m cm : Str → Option Value} {own : List (Addr × (Obj → Prop))}
  {K : Frag} {x : Str} {pos : Pos} {v : Value}

theorem Wp.mono {α : Type} {t : Sem α} {Q Q' : α → Shared → Prop} (h : Wp prog w A t Q s) (hq : ∀ a s, Q a s → Q' a s) : Wp prog w A t Q' s := ⟨wpAny_mono h.run hq fun _ _ e => e⟩
theorem Wp.any {α : Type} {t : Sem α} {Q : α → Shared → Prop} {E : Value → Shared → Prop} (h : Wp prog w A t Q s) : wpAny (model prog w) A t Q E s := wpAny_mono h.run (fun _ _ q => q) fun _ _ f => f.elim
theorem Wp.two {α β : Type} {t : Sem α} {f : α → Sem β} {Q : α → β → Shared → Prop} (h : Wp prog w A t (fun a s₁ => Wp prog w A (f a) (Q a) s₁) s) :
    wpAny (model prog w) A t (fun a s₁ => wpAny (model prog w) A (f a) (Q a) (fun _ _ => False) s₁) (fun _ _ => False) s := wpAny_mono h.run (fun _ _ q => q.run) fun _ _ e => e
theorem Wp.three {α β γ : Type} {t : Sem α} {f : α → Sem β} {k : α → β → Sem γ} {Q : α → β → γ → Shared → Prop} (h : Wp prog w A t (fun a s₁ => Wp prog w A (f a) (fun b s₂ => Wp prog w A (k a b) (Q a b) s₂) s₁) s) :
    wpAny (model prog w) A t (fun a s₁ => wpAny (model prog w) A (f a) (fun b s₂ => wpAny (model prog w) A (k a b) (Q a b) (fun _ _ => False) s₂) (fun _ _ => False) s₁) (fun _ _ => False) s := wpAny_mono h.run (fun _ _ q => q.two) fun _ _ e => e
theorem Wp.four {α β γ δ : Type} {t : Sem α} {f : α → Sem β} {k : α → β → Sem γ} {l : α → β → γ → Sem δ} {Q : α → β → γ → δ → Shared → Prop} (h : Wp prog w A t (fun a s₁ => Wp prog w A (f a) (fun b s₂ => Wp prog w A (k a b) (fun c s₃ => Wp prog w A (l a b c) (Q a b c) s₃) s₂) s₁) s) :
    wpAny (model prog w) A t (fun a s₁ => wpAny (model prog w) A (f a) (fun b s₂ => wpAny (model prog w) A (k a b) (fun c s₃ => wpAny (model prog w) A (l a b c) (Q a b c) (fun _ _ => False) s₃) (fun _ _ => False) s₂) (fun _ _ => False) s₁) (fun _ _ => False) s :=
  wpAny_mono h.run (fun _ _ q => q.three) fun _ _ e => e

/-! names -/
theorem nameL {Q : Value → Shared → Prop} (V : Ev env names L cs') (B : Bd h₀ g₀ L cs m cm own g hp) (hx : names.lookup x = some .local) (hm : m x = some v) (h : Q v ⟨hp, gs, dr, tk, os⟩) (hd : (x == ("__debug__" : Str)) = false := by decide) :
    Wp prog w A (eval (.Name x pos) env) Q ⟨hp, gs, dr, tk, os⟩ :=
  ⟨wpAny_Name (wpAny_loadName_local V.kd (by rw [V.kindOf]; exact hx) (by rw [V.lc]; exact B.ns) hm h) hd⟩
theorem nameC {c : Addr} {Q : Value → Shared → Prop} (V : Ev env names L cs) (hx : names.lookup x = some .cell) (hc : cs.lookup x = some c) (hv : hp.IsCell c (some v)) (h : Q v ⟨hp, gs, dr, tk, os⟩) (hd : (x == ("__debug__" : Str)) = false := by decide) :
    Wp prog w A (eval (.Name x pos) env) Q ⟨hp, gs, dr, tk, os⟩ :=
  ⟨wpAny_Name (wpAny_loadName_cell V.kd (by rw [V.kindOf]; exact hx) (by rw [V.cl]; exact hc) hv h) hd⟩
theorem nameCB {c : Addr} {Q : Value → Shared → Prop} (V : Ev env names L cs) (B : Bd h₀ g₀ L cs m cm own g hp) (hx : names.lookup x = some .cell) (hc : cs.lookup x = some c) (hv : cm x = some v) (h : Q v ⟨hp, gs, dr, tk, os⟩) (hd : (x == ("__debug__" : Str)) = false := by decide) :
    Wp prog w A (eval (.Name x pos) env) Q ⟨hp, gs, dr, tk, os⟩ := nameC V hx hc (hv ▸ B.cell x c hc) h hd
theorem nameG {Q : Value → Shared → Prop} (V : Ev env names L cs) (G : Gl K hp) (hx : names.lookup x = some .globalImplicit) (e : nsIn K mainGlobals x = some (some v)) (h : Q v ⟨hp, gs, dr, tk, os⟩) (hd : (x == ("__debug__" : Str)) = false := by decide) :
    Wp prog w A (eval (.Name x pos) env) Q ⟨hp, gs, dr, tk, os⟩ := by
  obtain ⟨mg, hg⟩ := G.g
  exact ⟨Calls.Name_function_global V.kd (by rw [V.kindOf]; exact hx) (Calls.loadGlobal_global (by rw [V.gl]; exact hg) (mg_of G.X hg e) h) hd⟩
theorem nameB {Q : Value → Shared → Prop} (V : Ev env names L cs) (G : Gl K hp) (hx : names.lookup x = some .globalImplicit) (e : nsIn K mainGlobals x = some none) (hv : bootBuiltins x = some v) (h : Q v ⟨hp, gs, dr, tk, os⟩)
    (hn : x ≠ "__name__" := by decide) (hd : (x == ("__debug__" : Str)) = false := by decide) :
    Wp prog w A (eval (.Name x pos) env) Q ⟨hp, gs, dr, tk, os⟩ := by
  obtain ⟨mg, hg⟩ := G.g
  obtain ⟨mb, hb, hb2⟩ := G.b
  exact ⟨Calls.Name_function_global V.kd (by rw [V.kindOf]; exact hx) (Calls.loadGlobal_builtin (by rw [V.gl]; exact hg) (mg_none_of G.X hg e) (by rw [V.bi]; exact hb) ((hb2 x hn).trans hv) h) hd⟩

theorem storeL {Q : Unit → Shared → Prop} (V : Ev env names L cs') (B : Bd h₀ g₀ L cs m cm own g hp) (hx : names.lookup x = some .local)
    (h : ∀ h' tk', Bd h₀ g₀ L cs (upd m x v) cm own g h' → Q () ⟨h', gs, dr, tk', os⟩) : Wp prog w A (storeName env x v) Q ⟨hp, gs, dr, tk, os⟩ :=
  ⟨wpAny_storeName_local (by rw [V.kindOf]; exact hx) (by rw [V.lc]; exact B.ns) (fun h' hn hs => h h' _ (B.setL (V.lc ▸ hn) (V.lc ▸ hs))) (by rw [V.kd]; rfl)⟩
theorem storeC {c : Addr} {Q : Unit → Shared → Prop} (V : Ev env names L cs) (B : Bd h₀ g₀ L cs m cm own g hp) (hx : names.lookup x = some .cell) (hc : cs.lookup x = some c)
    (h : ∀ h', Bd h₀ g₀ L cs m (upd cm x v) own g h' → Q () ⟨h', gs, dr, tk, os⟩) : Wp prog w A (storeName env x v) Q ⟨hp, gs, dr, tk, os⟩ :=
  ⟨wpAny_storeName_cell V.kd (by rw [V.kindOf]; exact hx) (by rw [V.cl]; exact hc) (B.cell x c hc) fun h' hn hs => h h' (B.setC hc hn hs)⟩
theorem assignL {Q : Unit → Shared → Prop} (V : Ev env names L cs') (B : Bd h₀ g₀ L cs m cm own g hp) (hx : names.lookup x = some .local)
    (h : ∀ h' tk', Bd h₀ g₀ L cs (upd m x v) cm own g h' → Q () ⟨h', gs, dr, tk', os⟩) : Wp prog w A (assign (.Name x pos) env v) Q ⟨hp, gs, dr, tk, os⟩ :=
  ⟨wpAny_assign_Name (storeL V B hx h).run⟩
theorem assignC {c : Addr} {Q : Unit → Shared → Prop} (V : Ev env names L cs) (B : Bd h₀ g₀ L cs m cm own g hp) (hx : names.lookup x = some .cell) (hc : cs.lookup x = some c)
    (h : ∀ h', Bd h₀ g₀ L cs m (upd cm x v) own g h' → Q () ⟨h', gs, dr, tk, os⟩) : Wp prog w A (assign (.Name x pos) env v) Q ⟨hp, gs, dr, tk, os⟩ :=
  ⟨wpAny_assign_Name (storeC V B hx hc h).run⟩
theorem letGo_name {it : Value} {Q : Unit → Shared → Prop} (h : Q () s) : Wp prog w A (letOwnedTupleGo (.Name x pos) it v) Q s := ⟨wpAny_of_eq (a := ()) rfl h⟩

/-! plain ints: the state's heap stays -/
theorem cInt {i : Int} {k : Nat} {Q : Value → Shared → Prop} (h : ∀ t tk', Q (.int i t) ⟨hp, gs, dr, tk', os⟩) : Wp prog w A (eval (.Constant (.int i) k pos) env) Q ⟨hp, gs, dr, tk, os⟩ := ⟨wpAny_Constant_int (h _ _)⟩
theorem cBool {b : Bool} {k : Nat} {Q : Value → Shared → Prop} (h : Q (.bool b) s) : Wp prog w A (eval (.Constant (.bool b) k pos) env) Q s := ⟨wpAny_Constant_bool h⟩
theorem iAdd {a b : Int} {t u : Tok} {Q : Value → Shared → Prop} (h : ∀ t tk', Q (.int (a + b) t) ⟨hp, gs, dr, tk', os⟩) : Wp prog w A (binaryOp .Add (.int a t) (.int b u)) Q ⟨hp, gs, dr, tk, os⟩ := ⟨wpAny_add_int (h _ _)⟩
theorem iSub {a b : Int} {t u : Tok} {Q : Value → Shared → Prop} (h : ∀ t tk', Q (.int (a - b) t) ⟨hp, gs, dr, tk', os⟩) : Wp prog w A (binaryOp .Sub (.int a t) (.int b u)) Q ⟨hp, gs, dr, tk, os⟩ := ⟨PyProof.Rows.sub_int (h _ _)⟩
theorem iMul {a b : Int} {t u : Tok} {Q : Value → Shared → Prop} (hm : IntMulOk a b) (h : ∀ t tk', Q (.int (a * b) t) ⟨hp, gs, dr, tk', os⟩) : Wp prog w A (binaryOp .Mult (.int a t) (.int b u)) Q ⟨hp, gs, dr, tk, os⟩ := ⟨PyProof.Rows.mul_int (h _ _) hm⟩
theorem iFlo {a b : Int} {t u : Tok} {Q : Value → Shared → Prop} (hb : b ≠ 0) (hb2 : b.natAbs < 1073741824) (h : ∀ t tk', Q (.int (a.fdiv b) t) ⟨hp, gs, dr, tk', os⟩) : Wp prog w A (binaryOp .FloorDiv (.int a t) (.int b u)) Q ⟨hp, gs, dr, tk, os⟩ :=
  ⟨floordiv_int hb (h _ _) (.inl (PyProof.noPylong_small hb2))⟩
theorem iMod {a b : Int} {t u : Tok} {Q : Value → Shared → Prop} (hb : b ≠ 0) (h : ∀ t tk', Q (.int (a.fmod b) t) ⟨hp, gs, dr, tk', os⟩) : Wp prog w A (binaryOp .Mod (.int a t) (.int b u)) Q ⟨hp, gs, dr, tk, os⟩ := ⟨mod_int' hb (h _ _)⟩
theorem iNeg {a : Int} {t : Tok} {Q : Value → Shared → Prop} (h : ∀ t tk', Q (.int (-a) t) ⟨hp, gs, dr, tk', os⟩) : Wp prog w A (unaryOp .USub (.int a t)) Q ⟨hp, gs, dr, tk, os⟩ := ⟨PyProof.Rows.neg_int (h _ _)⟩
theorem iAbs {a : Int} {t : Tok} {Q : Value → Shared → Prop} (h : ∀ t tk', Q (.int (if a < 0 then -a else a) t) ⟨hp, gs, dr, tk', os⟩) : Wp prog w A (call (.builtin "abs") [.int a t]) Q ⟨hp, gs, dr, tk, os⟩ := ⟨call_abs_int fun u tk => h u tk⟩
theorem iEq {a b : Int} {t u : Tok} {Q : Value → Shared → Prop} (h : Q (.bool (a == b)) s) : Wp prog w A (compareOp .Eq (.int a t) (.int b u)) Q s := ⟨PyProof.Rows.eq_int h⟩
theorem iLt {a b : Int} {t u : Tok} {Q : Value → Shared → Prop} (h : Q (.bool (decide (a < b))) s) : Wp prog w A (compareOp .Lt (.int a t) (.int b u)) Q s := ⟨PyProof.Rows.lt_int h⟩
theorem truB {b : Bool} {Q : Bool → Shared → Prop} (h : Q b s) : Wp prog w A (truthy (.bool b)) Q s := ⟨wpAny_truthy_bool h⟩

/-! statements -/
theorem sCons {st : Stmt} {rest : List Stmt} {Q : Flow → Shared → Prop} (h : Wp prog w A (exec st env) (kSeq prog w A env rest Q) s) : Wp prog w A (execs (st :: rest) env) Q s :=
  ⟨wpAny_execs_cons (wpAny_mono h.run (fun f s' q => by cases f <;> first | exact q.run | exact q) fun _ _ e => e)⟩
theorem sNil {Q : Flow → Shared → Prop} (h : Q .next s) : Wp prog w A (execs [] env) Q s := ⟨wpAny_execs_nil h⟩
theorem sAssign {pos' : Pos} {value : Expr} {Q : Flow → Shared → Prop} (h : Wp prog w A (eval value env) (k1 prog w A (storeName env x) (kN Q)) s)
    (hs : swapsWith value (some (.Name x pos')) pos.line env = pure false := by rfl) : Wp prog w A (exec (.Assign [.Name x pos'] value pos) env) Q s := ⟨wpAny_Assign_Name h.two hs⟩
theorem sRet {e : Expr} {Q : Flow → Shared → Prop} (h : Wp prog w A (eval e env) (kR Q) s) : Wp prog w A (exec (.Return (some e) pos) env) Q s := ⟨wpAny_Return_some h.run⟩
theorem sIf {test : Expr} {body orelse : List Stmt} {Q : Flow → Shared → Prop} (h : Wp prog w A (isTrue test env (eval test env)) (kIf prog w A env body orelse Q) s) :
    Wp prog w A (exec (.If test body orelse pos) env) Q s :=
  ⟨wpAny_If (wpAny_mono h.run (fun b s' q => by cases b <;> exact q.run) fun _ _ e => e)⟩
theorem sCont {Q : Flow → Shared → Prop} (h : Q .cont s) : Wp prog w A (exec (.Continue pos) env) Q s := ⟨wpAny_Continue h⟩
theorem sAug {pos' : Pos} {op : Operator} {value : Expr} {Q : Flow → Shared → Prop} (h : Wp prog w A (loadName env x) (k2 prog w A (eval value env) (inplaceOp op) (k1 prog w A (storeName env x) (kN Q))) s) :
    Wp prog w A (exec (.AugAssign (.Name x pos') op value pos) env) Q s := ⟨wpAny_AugAssign_Name h.four⟩

/-! expressions -/
theorem eBin {l r : Expr} {op : Operator} {Q : Value → Shared → Prop} (h : Wp prog w A (eval l env) (k2 prog w A (eval r env) (binaryOp op) Q) s) : Wp prog w A (eval (.BinOp l op r pos) env) Q s := ⟨wpAny_BinOp h.three⟩
theorem eUn {e : Expr} {op : UnaryOp} {Q : Value → Shared → Prop} (h : Wp prog w A (eval e env) (k1 prog w A (unaryOp op) Q) s) : Wp prog w A (eval (.UnaryOp op e pos) env) Q s := ⟨wpAny_UnaryOp h.two⟩
theorem eCmp {l r : Expr} {op : CmpOp} {Q : Value → Shared → Prop} (h : Wp prog w A (eval l env) (k2 prog w A (eval r env) (compareOp op) Q) s) (hm : behindInMarks op r = false := by with_unfolding_all rfl) :
    Wp prog w A (eval (.Compare l [op] [r] pos) env) Q s := ⟨wpAny_Compare1 h.three hm⟩
theorem tCmp {l r : Expr} {op : CmpOp} {whole : Sem Value} {Q : Bool → Shared → Prop} (h : Wp prog w A (eval l env) (k2 prog w A (eval r env) (compareOp op) (k1 prog w A truthy Q)) s) (hm : behindInMarks op r = false := by with_unfolding_all rfl) :
    Wp prog w A (isTrue (.Compare l [op] [r] pos) env whole) Q s := ⟨wpAny_isTrue_Compare1 h.four hm⟩
theorem tVal {e : Expr} {whole : Sem Value} {Q : Bool → Shared → Prop} (h : Wp prog w A whole (k1 prog w A truthy Q) s) (he : isTrue e env whole = (do let v ← whole; standAt e.pos; holding [v] (truthy v)) := by rfl) : Wp prog w A (isTrue e env whole) Q s :=
  ⟨wpAny_isTrue_value h.two he⟩
theorem tAnd2 {a b : Expr} {whole : Sem Value} {Q : Bool → Shared → Prop} (h : Wp prog w A (isTrue a env (eval a env)) (fun c s₁ => if c = true then Wp prog w A (isTrue b env (eval b env)) Q s₁ else Q false s₁) s) : Wp prog w A (isTrue (.BoolOp .And [a, b] pos) env whole) Q s := by
  refine ⟨wpAny_isTrue_BoolOp (wpAny_allTrue_And_cons (wpAny_mono h.run (fun c s₁ q => ?_) fun _ _ e => e))⟩
  cases c with
  | true => exact wpAny_allTrue_And_cons (wpAny_mono q.run (fun d s₂ q => by cases d <;> first | exact wpAny_allTrue_And_nil q | exact q) fun _ _ e => e)
  | false => exact q
theorem eSub {value slice : Expr} {Q : Value → Shared → Prop} (h : Wp prog w A (eval value env) (k2 prog w A (eval slice env) (subscriptTail value slice) Q) s) : Wp prog w A (eval (.Subscript value slice pos) env) Q s := ⟨Subscript_ h.three⟩
theorem pNone {Q : Value → Shared → Prop} (h : Q .none s) : Wp prog w A (evalPart none env) Q s := ⟨wpAny_evalPart_none h⟩
theorem pSome {e : Expr} {Q : Value → Shared → Prop} (h : Wp prog w A (eval e env) Q s) : Wp prog w A (evalPart (some e) env) Q s := ⟨wpAny_evalPart_some h.run⟩

/-! calls -/
theorem callFn {np : Pos} {e : Expr} {rest : List Expr} {a : Addr} {o : Obj} {fd : FuncData} {Q : Value → Shared → Prop}
    (h : Wp prog w A (eval (.Name x np) env) (kFn prog w A a o fd (spliced (backTo pos (starEach (e :: rest) env))) Q) s)
    (he : starEach (e :: rest) env = (false, eval e env) :: starEach rest env := by rfl) :
    Wp prog w A (eval (.Call (.Name x np) (e :: rest) [] pos) env) Q s := by
  refine ⟨wpAny_Call_ofName (wpAny_mono h.run (fun f s₁ h₁ => ?_) fun _ _ e => e)⟩
  obtain ⟨rfl, h₁⟩ := h₁
  show wpAny _ _ (callWith pos (.ref a) [] (backTo pos (starEach (e :: rest) env)) []) Q _ s₁
  have h₂ := wpAny_mono h₁.run (Q' := fun vs s₂ => (s₂.heap.get? a = some o ∧ o.data = .func fd) ∧ wpAny (model prog w) A (call (.ref a) vs) Q (fun _ _ => False) s₂) (fun vs s₂ q => ⟨q.1, q.2.run⟩) fun _ _ e => e
  rw [he] at h₂ ⊢
  exact callWith_function_kw (Calls.evalArgs_plain h₂)
theorem callBu {np : Pos} {e : Expr} {rest : List Expr} {id : String} {Q : Value → Shared → Prop}
    (h : Wp prog w A (eval (.Name x np) env) (kCall prog w A (.builtin id) (spliced (backTo pos (starEach (e :: rest) env))) Q) s)
    (he : starEach (e :: rest) env = (false, eval e env) :: starEach rest env := by rfl) (hplain : (backTo pos (starEach rest env)).any (·.1) = false := by rfl) :
    Wp prog w A (eval (.Call (.Name x np) (e :: rest) [] pos) env) Q s := by
  refine ⟨wpAny_Call_ofName (wpAny_mono h.run (fun f s₁ h₁ => ?_) fun _ _ e => e)⟩
  obtain ⟨rfl, h₁⟩ := h₁
  show wpAny _ _ (callWith pos (.builtin id) [] (backTo pos (starEach (e :: rest) env)) []) Q _ s₁
  have h₂ := h₁.two
  rw [he] at h₂ ⊢
  exact Calls.callWith_builtin (by show (false || _) = false; rw [Bool.false_or]; exact hplain) (Calls.evalArgs_plain h₂)
theorem callTy {np : Pos} {e : Expr} {rest : List Expr} {T : String} {Q : Value → Shared → Prop}
    (h : Wp prog w A (eval (.Name x np) env) (kCall prog w A (.type T) (spliced (backTo pos (starEach (e :: rest) env))) Q) s)
    (he : starEach (e :: rest) env = (false, eval e env) :: starEach rest env := by rfl) (hplain : (backTo pos (starEach rest env)).any (·.1) = false := by rfl) :
    Wp prog w A (eval (.Call (.Name x np) (e :: rest) [] pos) env) Q s := by
  refine ⟨wpAny_Call_ofName (wpAny_mono h.run (fun f s₁ h₁ => ?_) fun _ _ e => e)⟩
  obtain ⟨rfl, h₁⟩ := h₁
  show wpAny _ _ (callWith pos (.type T) [] (backTo pos (starEach (e :: rest) env)) []) Q _ s₁
  exact callWith_type1 h₁.two he hplain

theorem argCons {e : Expr} {rest : List Expr} {Q : List Value → Shared → Prop} (h : Wp prog w A (eval e env) (kArg prog w A (spliced (backTo pos (starEach rest env))) Q) s)
    (he : backTo pos (starEach (e :: rest) env) = (false, eval e env) :: backTo pos (starEach rest env) := by rfl) :
    Wp prog w A (spliced (backTo pos (starEach (e :: rest) env))) Q s := by
  rw [he]; exact ⟨Calls.spliced_cons h.two⟩
theorem argNil {Q : List Value → Shared → Prop} (h : Q [] s) : Wp prog w A (spliced (backTo pos (starEach [] env))) Q s := ⟨Calls.spliced_nil h⟩
theorem arg1 {e : Expr} {Q : List Value → Shared → Prop} (h : Wp prog w A (eval e env) (fun v s₁ => Q [v] s₁) s) (he : backTo pos (starEach [e] env) = (false, eval e env) :: backTo pos (starEach [] env) := by rfl) :
    Wp prog w A (spliced (backTo pos (starEach [e] env))) Q s := argCons (h.mono fun _ _ q => argNil q) he
end

section
variable {prog : Program} {w : World} {A : Around} {hp : Heap} {gs : Array GenState} {dr : Drawn} {tk : Nat} {os : OsState}

theorem bindL_get {kindOf : Str → Option NameKind} : ∀ (binds : List (Str × Value)) (m : Str → Option Value), (binds.map (·.1)).Nodup → ∀ x ∈ binds, kindOf x.1 = some .local → bindL kindOf binds m x.1 = some x.2
  | (n, v) :: r, m, hnd, x, hx, hk => by
    have hnd' := List.nodup_cons.mp (show (n :: r.map (·.1)).Nodup from hnd)
    unfold bindL
    rcases List.mem_cons.mp hx with rfl | hx
    · rw [if_pos hk]
      have keep : ∀ (r : List (Str × Value)) (m : Str → Option Value), n ∉ r.map (·.1) → bindL kindOf r m n = m n := by
        intro r
        induction r with
        | nil => intro m _; rfl
        | cons q r ih =>
          intro m hq
          obtain ⟨n', v'⟩ := q
          unfold bindL
          rw [ih _ (fun h => hq (List.mem_cons_of_mem _ h))]
          have hne : ¬ n = n' := fun e => hq (by rw [e]; exact List.mem_cons_self)
          split
          · exact if_neg hne
          · rfl
      rw [keep r _ hnd'.1]
      exact if_pos rfl
    · exact bindL_get r _ hnd'.2 x hx hk
theorem bindC_get {kindOf : Str → Option NameKind} : ∀ (binds : List (Str × Value)) (m : Str → Option Value), (binds.map (·.1)).Nodup → ∀ x ∈ binds, kindOf x.1 = some .cell → bindC kindOf binds m x.1 = some x.2
  | (n, v) :: r, m, hnd, x, hx, hk => by
    have hnd' := List.nodup_cons.mp (show (n :: r.map (·.1)).Nodup from hnd)
    unfold bindC
    rcases List.mem_cons.mp hx with rfl | hx
    · rw [if_neg (by rw [hk]; decide)]
      have keep : ∀ (r : List (Str × Value)) (m : Str → Option Value), n ∉ r.map (·.1) → bindC kindOf r m n = m n := by
        intro r
        induction r with
        | nil => intro m _; rfl
        | cons q r ih =>
          intro m hq
          obtain ⟨n', v'⟩ := q
          unfold bindC
          rw [ih _ (fun h => hq (List.mem_cons_of_mem _ h))]
          have hne : ¬ n = n' := fun e => hq (by rw [e]; exact List.mem_cons_self)
          split
          · rfl
          · exact if_neg hne
      rw [keep r _ hnd'.1]
      exact if_pos rfl
    · exact bindC_get r _ hnd'.2 x hx hk

/-- a def is called: its body runs with a state of its own -/
theorem enter {K : Frag} {g : Heap} {a : Addr} {fd : FuncData} {oc : Value} {od : Option Addr} {osl : Array (Option Value)} {body : List Stmt} {vals : List Value} {binds : List (Str × Value)} {Q : Value → Shared → Prop} {names : List (Str × NameKind)} {nms : List Str}
    (G : Gl K hp) (hg : LE g hp) (hroom : A.depth < recursionLimit) (ho : K.lookup a = some ⟨oc, od, .func fd, osl⟩) (hcd : codeIn K fd.code fd.qualname = true)
    (hbody : fd.body = .stmts body) (hbind : bindArgs fd ⟨vals, []⟩ = pure binds) (hclo : fd.closure = []) (hnm : fd.scope.names = names) (hbn : binds.map (·.1) = nms) (hnd : nms.Nodup)
    (hkind : ∀ L, ∀ x ∈ binds, names.lookup x.1 = some .local ∨ (names.lookup x.1 = some .cell ∧ ((cellsFrom (L + 1) names []).lookup x.1).isSome = true))
    (hgl : fd.globals = mainGlobals) (hbi : fd.builtins = builtinsNs)
    (h : ∀ env L cs m cm h₁ tk₁, Ev env names L cs → cs = cellsFrom (L + 1) names [] → (∀ x ∈ binds, names.lookup x.1 = some .local → m x.1 = some x.2) → (∀ x ∈ binds, names.lookup x.1 = some .cell → cm x.1 = some x.2) → Bd hp g L cs m cm [] g h₁ →
      Wp prog w (A.deeper env) (execs body env) (kOut Q) ⟨h₁, gs, dr, tk₁, os⟩)
    (hco : fd.scope.isCoroutine = false := by rfl) (hgen : fd.scope.isGenerator = false := by rfl) (hk : fd.scope.kind = .function := by rfl) :
    Wp prog w A (call (.ref a) vals) Q ⟨hp, gs, dr, tk, os⟩ := by
  subst hnm hbn
  refine ⟨wpAny_call ?_⟩
  refine codeAny_call_cells hroom (G.X _ _ ho) rfl G.lim (codeRec_of G.X hcd) hbody hbind hclo (hkind _) (fun s₁ x => ?_) hco hgen hk
  obtain ⟨h₁, tk₁, rfl⟩ := x.toInCall.same
  have none_ge : ∀ b, hp.objs.size ≤ b → g.get? b = none := fun b hb => by
    cases e : g.get? b with
    | none => rfl
    | some o => exact absurd (Heap.lt_size (hg _ _ e)) (Nat.not_lt.mpr hb)
  refine wpAny_mono (h (callEnvC fd hp.objs.size a) hp.objs.size _ _ _ h₁ tk₁ ⟨hk, rfl, rfl, rfl, hgl, hbi⟩ rfl (fun y hy hk => bindL_get _ _ hnd y hy hk) (fun y hy hk => bindC_get _ _ hnd y hy hk) ⟨x.toInCall.ns, x.cell, x.apart, x.above, x.toInCall.keep, Nat.le_refl _, Nat.le_of_lt x.toInCall.ns.lt, LE.rfl', hg.tr x.toInCall.keep,
    fun b hb e => e, none_ge _ (Nat.le_refl _), fun n c hm => none_ge _ (Nat.le_of_lt (x.above n c (mem_of_lookup hm))), fun n c hm => (x.cell n c hm).lt, fun p hp => (nomatch hp), List.Pairwise.nil⟩).run (fun f s' hq => ?_) fun _ _ f => f.elim
  cases f <;> exact hq
end
end Mine
end
section
open PySem PySem.W PyProof.Rows
set_option maxRecDepth 100000
namespace Mine

theorem isList_of {h : Heap} {a : Addr} {vs : List Value} {n : Nat} (e : h.get? a = some (lst vs n)) : h.IsList a vs.toArray := ⟨_, e, rfl, n, rfl⟩
noncomputable def isLst (vs : List Value) (o : Obj) : Prop := ∃ n, o = lst vs n
theorem Bd.atL {h₀ g₀ g h : Heap} {L : Addr} {cs : List (Str × Addr)} {m cm : Str → Option Value} {own : List (Addr × (Obj → Prop))} {vs : List Value} {a : Addr} (B : Bd h₀ g₀ L cs m cm own g h) (hm : (a, isLst vs) ∈ own) : ∃ n, h.get? a = some (lst vs n) := by
  obtain ⟨o, e, n, rfl⟩ := B.at hm
  exact ⟨n, e⟩

/-! an iterator I over n items: St i says the iterator's object after i of them -/
structure It (prog : Program) (w : World) (A : Around) (g : Heap) (I : Addr) (n : Nat) (P : Nat → Value → Prop) (St : Nat → Obj → Prop) : Prop where
  item : ∀ i (hp : Heap) (gs : Array GenState) (dr : Drawn) (tk : Nat) (os : OsState) (Q : Option Value → Shared → Prop) (E : Value → Shared → Prop), i < n → LE g hp → (∃ o, hp.get? I = some o ∧ St i o) →
    (∀ v h' tk' o, P i v → h'.get? I = some o → St (i + 1) o → Heap.ExtBut I hp h' → hp.objs.size ≤ h'.objs.size → Q (some v) ⟨h', gs, dr, tk', os⟩) → wpAny (model prog w) A (pyNext (.ref I)) Q E ⟨hp, gs, dr, tk, os⟩
  done : ∀ (hp : Heap) (gs : Array GenState) (dr : Drawn) (tk : Nat) (os : OsState) (Q : Option Value → Shared → Prop) (E : Value → Shared → Prop), LE g hp → (∃ o, hp.get? I = some o ∧ St n o) →
    (∀ h' tk', Heap.ExtBut I hp h' → Q none ⟨h', gs, dr, tk', os⟩) → wpAny (model prog w) A (pyNext (.ref I)) Q E ⟨hp, gs, dr, tk, os⟩
  self : ∀ i (s : Shared) (Q : Value → Shared → Prop) (E : Value → Shared → Prop), LE g s.heap → (∃ o, s.heap.get? I = some o ∧ St i o) → Q (.ref I) s → wpAny (model prog w) A (pyIter (.ref I)) Q E s

noncomputable def listIt (l : Addr) (i : Nat) (o : Obj) : Prop := o.cls = .type "list_iterator" ∧ o.data = .fields #[.ref l, .int i 0]

theorem It.mono {prog : Program} {w : World} {A : Around} {g g' : Heap} {I : Addr} {n : Nat} {P : Nat → Value → Prop} {St : Nat → Obj → Prop} (W : It prog w A g I n P St) (k : LE g g') : It prog w A g' I n P St :=
  ⟨fun i hp gs dr tk os Q E hi hg => W.item i hp gs dr tk os Q E hi (k.tr hg), fun hp gs dr tk os Q E hg => W.done hp gs dr tk os Q E (k.tr hg), fun i s Q E hg => W.self i s Q E (k.tr hg)⟩

theorem It.list {prog : Program} {w : World} {A : Around} {g : Heap} {I l : Addr} {vs : List Value} {n : Nat} (hh : A.handled = none) (hl : g.get? l = some (lst vs n)) :
    It prog w A g I vs.length (fun i v => vs[i]? = some v) (listIt l) where
  item := fun i hp gs dr tk os Q E hi hg ⟨o, ho, hc, hd⟩ hQ => by
    refine wpAny_pyNext_list_item (i := i) (l := l) ⟨o, ho, hc, hd⟩ (isList_of (hg _ _ hl)) (x := vs[i]) (by simp [hi]) fun h' hit' hs' => ?_
    obtain ⟨o', ho', hc', hd'⟩ := hit'
    exact hQ _ h' _ o' (by simp [hi]) ho' ⟨hc', hd'⟩ hs'.extBut (Nat.le_of_eq hs'.1.symm)
  done := fun hp gs dr tk os Q E hg ⟨o, ho, hc, hd⟩ hQ => wpAny_pyNext_list_end (i := vs.length) (l := l) hh ⟨o, ho, hc, hd⟩ (isList_of (hg _ _ hl)) (by simp) fun h' hx => hQ h' _ hx
  self := fun i s Q E hg ⟨o, ho, hc, hd⟩ hQ => wpAny_pyIter_listiter (i := i) ⟨o, ho, hc, hd⟩ hQ

/-- the items of a range: a, a + c, .. -/
noncomputable def rangeIt (a c : Int) (n : Nat) (i : Nat) (o : Obj) : Prop := o = { cls := .type "range_iterator", data := .fields #[rawInt (a + (i : Int) * c), rawInt ((n : Int) - (i : Int)), rawInt c] }
theorem It.range {prog : Program} {w : World} {A : Around} {g : Heap} {I : Addr} (hh : A.handled = none) (a c : Int) (n : Nat) :
    It prog w A g I n (fun i v => ∃ t, v = .int (a + i * c) t) (rangeIt a c n) where
  item := fun i hp gs dr tk os Q E hi hg ⟨o, ho, e⟩ hQ => by
    subst e
    refine wpAny_pyNext_range_item (x := a + (i : Int) * c) (left := (n : Int) - (i : Int)) (step := c) ho (by lia  ) fun h' hit' hs' => ?_
    refine hQ _ h' _ _ ⟨_, rfl⟩ hit' ?_ hs'.extBut (Nat.le_of_eq hs'.1.symm)
    have e1 : a + ((i + 1 : Nat) : Int) * c = a + (i : Int) * c + c := by push_cast; rw [Int.add_mul, Int.one_mul, Int.add_assoc]
    have e2 : (n : Int) - ((i + 1 : Nat) : Int) = (n : Int) - (i : Int) - 1 := by push_cast; lia  
    unfold rangeIt; rw [e1, e2]
  done := fun hp gs dr tk os Q E hg ⟨o, ho, e⟩ hQ => by
    subst e
    exact wpAny_pyNext_range_end (x := a + (n : Int) * c) (left := (n : Int) - (n : Int)) (step := c) hh ho (by lia  ) fun h' hx => hQ h' _ hx
  self := fun i s Q E hg ⟨o, ho, e⟩ hQ => by
    subst e
    exact wpAny_pyIter_rangeiter (x := a + (i : Int) * c) (left := (n : Int) - (i : Int)) (step := c) ho hQ

section
variable {prog : Program} {w : World} {A : Around} {hp : Heap} {gs : Array GenState} {dr : Drawn} {tk : Nat} {os : OsState} {h₀ g₀ g gI : Heap} {L I : Addr} {cs : List (Str × Addr)} {m cm : Str → Option Value} {pre post : List (Addr × (Obj → Prop))}
  {n : Nat} {P : Nat → Value → Prop} {St : Nat → Obj → Prop}
/-- one step of an own iterator -/
theorem stepI {i : Nat} {Q : Option Value → Shared → Prop} (W : It prog w A gI I n P St) (hgI : LE gI g) (B : Bd h₀ g₀ L cs m cm (pre ++ (I, St i) :: post) g hp) (hi : i < n)
    (h : ∀ v h' tk', P i v → Bd h₀ g₀ L cs m cm (pre ++ (I, St (i + 1)) :: post) g h' → Q (some v) ⟨h', gs, dr, tk', os⟩) : Wp prog w A (pyNext (.ref I)) Q ⟨hp, gs, dr, tk, os⟩ :=
  ⟨W.item i hp gs dr tk os Q _ hi (hgI.tr B.le) (B.at (List.mem_append_right _ (.head _))) fun v h' tk' _ hv ho hs hx hz => h v h' tk' hv (B.setO ho hs hx hz)⟩
theorem lastI {Q : Option Value → Shared → Prop} (W : It prog w A gI I n P St) (hgI : LE gI g) (B : Bd h₀ g₀ L cs m cm (pre ++ (I, St n) :: post) g hp)
    (h : ∀ h' tk', Bd h₀ g₀ L cs m cm (pre ++ post) g h' → Q none ⟨h', gs, dr, tk', os⟩) : Wp prog w A (pyNext (.ref I)) Q ⟨hp, gs, dr, tk, os⟩ :=
  ⟨W.done hp gs dr tk os Q _ (hgI.tr B.le) (B.at (List.mem_append_right _ (.head _))) fun h' tk' hx => h h' tk' (B.last hx)⟩
/-- an iterator over a list of the persistent part -/
theorem iterL {l : Addr} {vs : List Value} {k : Nat} {own : List (Addr × (Obj → Prop))} {Q : Value → Shared → Prop} (B : Bd h₀ g₀ L cs m cm own g hp) (hl : g.get? l = some (lst vs k))
    (h : ∀ h' I, Bd h₀ g₀ L cs m cm ((I, listIt l 0) :: own) g h' → Q (.ref I) ⟨h', gs, dr, tk, os⟩) : Wp prog w A (pyIter (.ref l)) Q ⟨hp, gs, dr, tk, os⟩ :=
  ⟨wpAny_pyIter_list (isList_of (B.le _ _ hl)) (h _ _ (B.newO (q := listIt l 0) ⟨rfl, rfl⟩))⟩
end
end Mine
end
section
open PySem PySem.W PyProof.Rows
set_option maxRecDepth 100000
namespace Mine

/-- an iterator's answer is an item -/
inductive Item (r : Option Value) (P : Value → Prop) : Prop
  | mk (v : Value) (e : r = some v) (h : P v)
inductive KOk (Q : Flow → Shared → Prop) (r : Result) (s' : Shared) : Prop
  | mk (f : Flow) (e : r = .ok f) (q : Q f s')

/-- what a comprehension's turn does where its tests hold -/
noncomputable def inner (elt : Expr) (gens : List Comprehension) (scope : Scope) (pos : Pos) (d : Nat) (acc : Value) (env : Env) : Sem Unit :=
  match gens[d + 1]? with
  | some g' => do
    let x ← eval g'.iter env
    standAt g'.iter.pos
    let x ← if g'.is_async != 0 then foldedIterable g'.iter x else foldedSetIterable g'.iter env x
    let _ ← runOwn (.compStart (.ListComp elt gens scope pos) (d + 1) (← holding [x] (if g'.is_async != 0 then asyncIter x else pyIter x)) acc env) env
  | none => do let _ ← call (.builtin "list.append") [acc, ← eval elt env]

noncomputable def testsOf (ifs : List Expr) (env : Env) : Sem Bool :=
  forIn ifs true fun c r => if r = true then do let ok ← isTrue c env (eval c env); pure (ForInStep.yield ok) else pure (ForInStep.yield r)

/-- all clauses behind d are plain -/
noncomputable def PlainAt (gens : List Comprehension) (d : Nat) : Prop := gens[d]? = none ∨ ∃ t i f, gens[d]? = some ⟨t, i, f, 0⟩

theorem compTurn_eq {elt : Expr} {gens : List Comprehension} {scope : Scope} {pos : Pos} {d : Nat} {it acc : Value} {env : Env} {target iter : Expr} {ifs : List Expr} (hg : gens[d]? = some ⟨target, iter, ifs, 0⟩) (hp : PlainAt gens (d + 1)) :
    compTurn (.ListComp elt gens scope pos) d it acc env = (standAt iter.pos >>= fun _ => pyNext it >>= fun r => match r with
      | none => pure (.done .next)
      | some v => letOwnedTupleGo target it v >>= fun _ => assign target env v >>= fun _ => testsOf ifs env >>= fun ok =>
        if ok = true then (inner elt gens scope pos d acc env >>= fun _ => again (.compLoop (.ListComp elt gens scope pos) d it acc env))
        else again (.compLoop (.ListComp elt gens scope pos) d it acc env)) := by
  unfold compTurn inner testsOf
  rcases hp with hp | ⟨t, i, f, hp⟩
  · simp only [hg, hp, bne_self_eq_false, Bool.false_eq_true, if_false, bind_assoc, pure_bind]
    rfl
  · simp only [hg, hp, bne_self_eq_false, Bool.false_eq_true, if_false, bind_assoc, pure_bind]
    rfl

section
variable (prog : Program) (w : World) (A : Around) (env : Env)
noncomputable abbrev kItem (target : Expr) (it : Value) (Q : Unit → Shared → Prop) : Option Value → Shared → Prop := fun r s => Item r fun v => Wp prog w A (letOwnedTupleGo target it v) (kU prog w A (assign target env v) Q) s
noncomputable abbrev kTurn (J : Shared → Prop) (R : Result → Shared → Prop) : Flow → Shared → Prop := fun f s => match f with | .next | .cont => J s | .brk => False | .ret v => R (.ok (.ret v)) s
noncomputable abbrev kEnd (R : Result → Shared → Prop) : Option Value → Shared → Prop := fun r s => r = none ∧ R (.ok .next) s
noncomputable abbrev kTest (elt : Expr) (gens : List Comprehension) (scope : Scope) (pos : Pos) (d : Nat) (acc : Value) (T : Shared → Prop) : Bool → Shared → Prop :=
  fun ok s => match ok with | true => Wp prog w A (inner elt gens scope pos d acc env) (fun _ => T) s | false => T s
noncomputable abbrev kLoop (target : Expr) (body : List Stmt) (Q : Flow → Shared → Prop) : Value → Shared → Prop := fun it s => Cd prog w A (.forLoop target it body [] env) (KOk Q) s
noncomputable abbrev kNest (elt : Expr) (gens : List Comprehension) (scope : Scope) (pos : Pos) (d : Nat) (acc : Value) (Q : Unit → Shared → Prop) : Value → Shared → Prop := fun it s =>
  Cd prog w A (.compLoop (.ListComp elt gens scope pos) (d + 1) it acc env) (KOk fun _ => Q ()) s ∧ ∀ Q' : Value → Shared → Prop, ∀ E, Q' it s → wpAny (model prog w) A (pyIter it) Q' E s
end
section
variable {prog : Program} {w : World} {A : Around} {s : Shared} {env : Env}
theorem kTest_t {elt : Expr} {gens : List Comprehension} {scope : Scope} {pos : Pos} {d : Nat} {acc : Value} {T : Shared → Prop} {b : Bool} (hb : b = true) (h : Wp prog w A (inner elt gens scope pos d acc env) (fun _ => T) s) : kTest prog w A env elt gens scope pos d acc T b s := by subst hb; exact h
theorem kTest_f {elt : Expr} {gens : List Comprehension} {scope : Scope} {pos : Pos} {d : Nat} {acc : Value} {T : Shared → Prop} {b : Bool} (hb : ¬ b = true) (h : T s) : kTest prog w A env elt gens scope pos d acc T b s := by
  cases b with
  | true => exact absurd rfl hb
  | false => exact h

theorem tests_nil {Q : Bool → Shared → Prop} (h : Q true s) : Wp prog w A (testsOf [] env) Q s := ⟨wpAny_tests_nil h⟩
theorem tests_one {c : Expr} {Q : Bool → Shared → Prop} (h : Wp prog w A (isTrue c env (eval c env)) Q s) : Wp prog w A (testsOf [c] env) Q s := ⟨wpAny_tests_one h.run⟩

theorem inner_emit {elt : Expr} {gens : List Comprehension} {scope : Scope} {pos : Pos} {d : Nat} {acc : Value} {Q : Unit → Shared → Prop}
    (h : Wp prog w A (eval elt env) (fun x s₁ => Wp prog w A (call (.builtin "list.append") [acc, x]) (fun _ s₂ => Q () s₂) s₁) s) (hg : gens[d + 1]? = none := by rfl) : Wp prog w A (inner elt gens scope pos d acc env) Q s := by
  unfold inner
  rw [hg]
  exact ⟨wpAny_bind (wpAny_mono h.run (fun x s₁ h₁ => wpAny_bind (wpAny_mono h₁.run (fun _ s₂ h₂ => wpAny_pure h₂) fun _ _ e => e)) fun _ _ e => e)⟩

theorem start_of {elt : Expr} {gens : List Comprehension} {scope : Scope} {pos : Pos} {d : Nat} {it acc : Value} {R : Result → Shared → Prop} {target iter : Expr} {ifs : List Expr} (hg : gens[d]? = some ⟨target, iter, ifs, 0⟩)
    (h0 : codeAny (model prog w) A (.compLoop (.ListComp elt gens scope pos) d it acc env) R s)
    (hself : ∀ Q : Value → Shared → Prop, ∀ E, Q it s → wpAny (model prog w) A (pyIter it) Q E s) :
    codeAny (model prog w) A (.compStart (.ListComp elt gens scope pos) d it acc env) R s := by
  refine codeAny_of_tree ?_
  show wpAny _ _ ((compStart (.ListComp elt gens scope pos) d it acc env).onRaise (fun x => do noteFrame x env; standAt theWindowsPlace)) _ _ s
  refine wpAny_notedAt ?_
  unfold compStart
  have hc : (clausesOf (.ListComp elt gens scope pos))[d]? = some ⟨target, iter, ifs, 0⟩ := hg
  rw [hc]
  show wpAny _ _ (ask >>= _) _ _ s
  refine wpAny_bind (wpAny_askSetting (wpAny_ite ?_))
  split
  · first
      | exact wpAny_bind (wpAny_pure (wpAny_pure (And.intro rfl h0)))
      | exact wpAny_pure (And.intro rfl h0)
  · first
      | exact wpAny_bind (wpAny_rule (wpAny_bind (wpAny_standAt (wpAny_bind (hself _ _ (wpAny_pure (And.intro rfl h0)))))))
      | (refine wpAny_bind (wpAny_rule ?_); show wpAny _ _ (standAt iter.pos >>= _) _ _ s; exact wpAny_bind (wpAny_standAt (wpAny_bind (hself _ _ (wpAny_pure (And.intro rfl h0))))))

/-- the next clause: its iterator, its loop -/
theorem inner_nest {elt : Expr} {gens : List Comprehension} {scope : Scope} {pos : Pos} {d : Nat} {acc : Value} {Q : Unit → Shared → Prop} {target iter : Expr} {ifs : List Expr} (hg : gens[d + 1]? = some ⟨target, iter, ifs, 0⟩)
    (h : Wp prog w A (eval iter env) (k1 prog w A pyIter (kNest prog w A env elt gens scope pos d acc Q)) s)
    (hs : ∀ x, foldedSetIterable iter env x = pure x := by intro _; rfl) : Wp prog w A (inner elt gens scope pos d acc env) Q s := by
  unfold inner
  rw [hg]
  refine ⟨wpAny_bind (wpAny_mono h.run (fun x s₁ h₁ => wpAny_bind (wpAny_standAt ?_)) fun _ _ e => e)⟩
  refine wpAny_bind (wpAny_of_eq (hs x) ?_)
  refine wpAny_bind (wpAny_holding (wpAny_mono h₁.run (fun it s₂ h₂ => wpAny_bind (wpAny_runOwn (codeAny_mono (start_of hg h₂.1.run h₂.2) (fun r s' hr => ?_)))) fun _ _ e => e))
  obtain ⟨f, rfl, hq⟩ := hr
  exact wpAny_pure hq

/-- a comprehension's loop at one depth, by what holds after i items -/
theorem comp_loop {elt : Expr} {gens : List Comprehension} {scope : Scope} {pos : Pos} {d : Nat} {it acc : Value} {R : Result → Shared → Prop} {target iter : Expr} {ifs : List Expr} (hg : gens[d]? = some ⟨target, iter, ifs, 0⟩) (hp : PlainAt gens (d + 1)) (n : Nat) (J : Nat → Shared → Prop)
    (turn : ∀ i s, i < n → J i s → Wp prog w A (pyNext it) (kItem prog w A env target it (kU prog w A (testsOf ifs env) (kTest prog w A env elt gens scope pos d acc (J (i + 1))))) s)
    (last : ∀ s, J n s → Wp prog w A (pyNext it) (kEnd R) s)
    (h : J 0 s) : Cd prog w A (.compLoop (.ListComp elt gens scope pos) d it acc env) R s := by
  refine ⟨codeAny_loop rfl (fun k s => ∃ i, i ≤ n ∧ k = n + 1 - i ∧ J i s) ?_ (n + 1) ⟨0, Nat.zero_le _, rfl, h⟩⟩
  rintro k s ⟨i, hi, rfl, hJ⟩
  show wpAny _ A ((compTurn (.ListComp elt gens scope pos) d it acc env).onRaise (fun x => do noteFrame x env; theTreesLotGoes x)) _ _ s
  refine wpAny_noted ?_
  rw [compTurn_eq hg hp]
  have nb : ∀ e s', False → notedBy (model prog w) A env (fun e s' => R (.error e) s') e s' := fun _ _ f => f.elim
  by_cases hlt : i < n
  · refine wpAny_bind (wpAny_standAt (wpAny_bind (wpAny_mono (turn i s hlt hJ).run (fun r s₁ h₁ => ?_) nb)))
    obtain ⟨v, rfl, h₁⟩ := h₁
    refine wpAny_bind (wpAny_mono h₁.run (fun _ s₂ h₂ => wpAny_bind (wpAny_mono h₂.run (fun _ s₃ h₃ => wpAny_bind (wpAny_mono h₃.run (fun ok s₄ h₄ => ?_) nb)) nb)) nb)
    cases ok with
    | true =>
      have h₄' : Wp prog w A (inner elt gens scope pos d acc env) (fun _ s₅ => J (i + 1) s₅) s₄ := h₄
      exact wpAny_bind (wpAny_mono h₄'.run (fun _ s₅ h₅ => wpAny_pure ⟨rfl, n + 1 - (i + 1), by omega, i + 1, hlt, rfl, h₅⟩) nb)
    | false => exact wpAny_pure ⟨rfl, n + 1 - (i + 1), by omega, i + 1, hlt, rfl, h₄⟩
  · have : i = n := by omega
    subst this
    refine wpAny_bind (wpAny_standAt (wpAny_bind (wpAny_mono (last s hJ).run (fun r s₁ h₁ => ?_) nb)))
    obtain ⟨rfl, h₁⟩ := h₁
    exact wpAny_pure h₁

/-- a for loop, by what holds after i items -/
theorem for_loop {target : Expr} {body : List Stmt} {it : Value} {R : Result → Shared → Prop} (n : Nat) (J : Nat → Shared → Prop)
    (turn : ∀ i s, i < n → J i s → Wp prog w A (pyNext it) (kItem prog w A env target it (kU prog w A (execs body env) (kTurn (J (i + 1)) R))) s)
    (last : ∀ s, J n s → Wp prog w A (pyNext it) (kEnd R) s)
    (h : J 0 s) : Cd prog w A (.forLoop target it body [] env) R s := by
  refine ⟨codeAny_loop' rfl (fun k s => ∃ i, i ≤ n ∧ k = n + 1 - i ∧ J i s) ?_ (n + 1) ⟨0, Nat.zero_le _, rfl, h⟩⟩
  rintro k s ⟨i, hi, rfl, hJ⟩
  show wpAny _ A ((forTurn target it body [] env).onRaise (fun x => do noteFrame x env; theTreesLotGoes x)) _ _ s
  refine wpAny_noted ?_
  have nb : ∀ e s', False → notedBy (model prog w) A env (fun e s' => R (.error e) s') e s' := fun _ _ f => f.elim
  simp only [forTurn]
  by_cases hlt : i < n
  · refine wpAny_bind (wpAny_standAt (wpAny_bind (wpAny_onRaise (wpAny_mono (turn i s hlt hJ).run (fun r s₁ h₁ => ?_) fun _ _ f => f.elim))))
    obtain ⟨v, rfl, h₁⟩ := h₁
    refine wpAny_bind (wpAny_mono h₁.run (fun _ s₂ h₂ => wpAny_bind (wpAny_mono h₂.run (fun _ s₃ h₃ => wpAny_bind (wpAny_mono h₃.run (fun f s₄ h₄ => ?_) nb)) nb)) nb)
    cases f with
    | next => exact wpAny_pure (.inl ⟨rfl, n + 1 - (i + 1), by omega, i + 1, hlt, rfl, h₄⟩)
    | cont => exact wpAny_pure (.inl ⟨rfl, n + 1 - (i + 1), by omega, i + 1, hlt, rfl, h₄⟩)
    | brk => exact h₄.elim
    | ret v => exact wpAny_pure h₄
  · have : i = n := by omega
    subst this
    refine wpAny_bind (wpAny_standAt (wpAny_bind (wpAny_onRaise (wpAny_mono (last s hJ).run (fun r s₁ h₁ => ?_) fun _ _ f => f.elim))))
    obtain ⟨rfl, h₁⟩ := h₁
    exact wpAny_pure (.inr ⟨rfl, codeAny_block (wpAny_execs_nil h₁)⟩)

theorem sFor {target iter : Expr} {body : List Stmt} {pos : Pos} {Q : Flow → Shared → Prop}
    (h : Wp prog w A (eval iter env) (k1 prog w A pyIter (kLoop prog w A env target body Q)) s)
    (hs : ∀ x, foldedSetIterable iter env x = pure x := by intro _; rfl) :
    Wp prog w A (exec (.For target iter body [] pos) env) Q s :=
  ⟨wpAny_For (wpAny_mono h.run (fun x s₁ h₁ => wpAny_mono h₁.run (fun it s₂ h₂ => codeAny_mono h₂.run fun r s' hr => by obtain ⟨f, rfl, hq⟩ := hr; exact hq) fun _ _ e => e) fun _ _ e => e) hs⟩
end
end Mine
end
section
open PySem PySem.W PyProof.Rows
set_option maxRecDepth 100000
namespace Mine

/-- a comprehension's names: those of its own, the outer frame's cells read as cells -/
noncomputable def relab (names outer : List (Str × NameKind)) : List (Str × NameKind) := names.map fun (n, k) => if (k == .free && outer.lookup n == some .cell) then (n, .cell) else (n, k)
theorem Ev.comp {env : Env} {names : List (Str × NameKind)} {L C : Addr} {cs cl : List (Str × Addr)} {scope : Scope} (V : Ev env names L cs) (hk : scope.kind = .function) : Ev (compEnvC scope cl C env) (relab scope.names names) C cl :=
  ⟨hk, (by
    show (relabel scope env).names = _
    unfold relabel relab
    refine List.map_congr_left fun x _ => ?_
    obtain ⟨n, k⟩ := x
    have e : (env.scope.kind == ScopeKind.function) = true := by rw [V.kd]; rfl
    simp only [e, V.kindOf, Bool.and_true]), rfl, rfl, V.gl, V.bi⟩

noncomputable def closureList (cells : List (Str × Addr)) : List (Str × NameKind) → List (Str × Addr) → Option (List (Str × Addr))
  | [], acc => some acc
  | (n, k) :: r, acc => if k = .free then (match cells.lookup n with | some c => closureList cells r ((n, c) :: acc) | none => none) else closureList cells r acc
theorem closure_go {env : Env} : ∀ (l : List (Str × NameKind)) (acc cl : List (Str × Addr)), closureList env.cells l acc = some cl →
    (forIn l acc fun (x : Str × NameKind) (cs : List (Str × Addr)) => (if (x.2 == NameKind.free) = true then do let c ← cellOf env x.1; pure (ForInStep.yield ((x.1, c) :: cs)) else pure (ForInStep.yield cs) : Sem _)) = pure cl
  | [], acc, cl, h => by
    simp only [closureList, Option.some.injEq] at h
    subst h; rfl
  | (n, k) :: r, acc, cl, h => by
    rw [List.forIn_cons]
    unfold closureList at h
    by_cases hk : k = .free
    · subst hk
      simp only [if_true] at h
      cases hc : env.cells.lookup n with
      | none => rw [hc] at h; cases h
      | some c =>
        rw [hc] at h
        have : cellOf env n = pure c := by unfold cellOf; rw [hc]
        simp only [beq_self_eq_true, if_true, this, pure_bind]
        exact closure_go r _ cl h
    · rw [if_neg hk] at h
      have hb : (k == NameKind.free) = false := by simpa using hk
      simp only [hb, Bool.false_eq_true, if_false, pure_bind]
      exact closure_go r _ cl h
theorem closure_of {scope : Scope} {env : Env} {cs cl : List (Str × Addr)} (hc : env.cells = cs) (h : closureList cs scope.names [] = some cl) : closureFor scope env = pure cl := by
  subst hc
  unfold closureFor
  have := closure_go (env := env) scope.names [] cl h
  simp only [bind_pure]
  first
  | exact this
  | (simp only [bind_assoc, pure_bind] at *; exact this)

section
variable {prog : Program} {w : World} {A : Around} {E : Value → Shared → Prop} {gs : Array GenState} {dr : Drawn} {tk : Nat} {os : OsState} {s : Shared} {env : Env}

/-- what a comprehension's loop is to bring: its list, what is said of it -/
inductive CompEnd (h₁ : Heap) (gs : Array GenState) (dr : Drawn) (os : OsState) (g : Heap) (C D : Addr) (Post : List Value → Heap → Prop) (r : Result) (s' : Shared) : Prop
  | mk (f : Flow) (h' : Heap) (tk' : Nat) (m' : Str → Option Value) (out : List Value) (own' : List (Addr × (Obj → Prop))) (g' : Heap) (er : r = .ok f) (es : s' = ⟨h', gs, dr, tk', os⟩) (B : Bd h₁ g C [] m' (fun _ => none) ((D, isLst out) :: own') g' h') (hp : Post out g')

/-- an iterator of x stands ready -/
structure Ready (prog : Program) (w : World) (A : Around) (h₁ : Heap) (g : Heap) (x : Value) (o : Obj) : Prop where
  nf : o.isFreed = false
  go : ∀ gs dr tk os Q E, Q (.ref h₁.objs.size) ⟨h₁.push o, gs, dr, tk, os⟩ → wpAny (model prog w) A (pyIter x) Q E ⟨h₁, gs, dr, tk, os⟩
  self : ∀ (s : Shared) (Q : Value → Shared → Prop) (E : Value → Shared → Prop), LE g s.heap → s.heap.get? h₁.objs.size = some o → Q (.ref h₁.objs.size) s → wpAny (model prog w) A (pyIter (.ref h₁.objs.size)) Q E s
theorem Ready.list {h₁ g : Heap} {l : Addr} {vs : List Value} {k : Nat} (hg : LE g h₁) (hl : g.get? l = some (lst vs k)) : Ready prog w A h₁ g (.ref l) { cls := .type "list_iterator", data := .fields #[.ref l, .int 0 0] } :=
  ⟨rfl, fun _ _ _ _ _ _ hq => wpAny_pyIter_list (isList_of (hg _ _ hl)) hq, fun _ _ _ _ e hq => wpAny_pyIter_listiter (i := 0) ⟨_, e, rfl, rfl⟩ hq⟩

theorem comp_core {elt : Expr} {gs' : List Comprehension} {scope : Scope} {pos : Pos} {target iter : Expr} {ifs : List Expr} {cl : List (Str × Addr)} {h₁ g : Heap} {x : Value} {o : Obj} {RR : Value → Addr → Result → Shared → Prop} {Post : List Value → Heap → Prop}
    (hcell : ∀ y ∈ scope.names, y.2 ≠ .cell) (hkind : scope.kind = .function) (hg : LE g h₁) (Y : Ready prog w A h₁ g x o)
    (loop : ∀ C D I h₄ tk₄, I = h₁.objs.size → Bd h₁ g C [] (fun _ => none) (fun _ => none) [(D, isLst []), (I, fun o' => o' = o)] g h₄ →
      Cd prog w A (.compLoop (.ListComp elt (⟨target, iter, ifs, 0⟩ :: gs') scope pos) 0 (.ref I) (.ref D) (compEnvC scope cl C env)) (CompEnd h₁ gs dr os g C D Post) ⟨h₄, gs, dr, tk₄, os⟩)
    (hRR : ∀ C D f h' tk' m' out own' g', Bd h₁ g C [] m' (fun _ => none) ((D, isLst out) :: own') g' h' → Post out g' → RR (.ref D) C (.ok f) ⟨h', gs, dr, tk', os⟩) :
    wpAny (model prog w) A (pyIter x) (fun it s₂ => wpAny (model prog w) A (newList []) (fun acc s₃ => wpAny (model prog w) A (newFunctionEnv scope env.globals cl [] env.qual none .none (some env)) (fun cenv s₄ =>
      codeAny (model prog w) A (.compStart (.ListComp elt (⟨target, iter, ifs, 0⟩ :: gs') scope pos) 0 it acc { cenv with scope := relabel scope env }) (RR acc cenv.locals) s₄) E s₃) E s₂) E ⟨h₁, gs, dr, tk, os⟩ := by
  refine Y.go _ _ _ _ _ _ (wpAny_newObj_type (wpAny_newFunctionEnv hcell (by intro y hy; simp at hy) (fun h₂ hns₁ hsb₁ => ?_) hkind))
  dsimp only at hns₁ hsb₁ ⊢
  generalize hH2 : (h₁.push o).push { cls := .type "list", dict := none, data := .seq ([] : List Value).toArray } = H2 at hns₁ hsb₁ ⊢
  have hD : (h₁.push o).objs.size = h₁.objs.size + 1 := Heap.size_push ..
  have hC : H2.objs.size = h₁.objs.size + 2 := by rw [← hH2, Heap.size_push, Heap.size_push]
  have up : ∀ b o', H2.get? b = some o' → h₂.get? b = some o' := fun b o' e => hsb₁.extBut b o' (Nat.ne_of_lt (Heap.lt_size e)) (Heap.get?_push_of_some _ e)
  have old : LE h₁ h₂ := fun b o' e => up b o' (hH2 ▸ Heap.get?_push_of_some _ (Heap.get?_push_of_some _ e))
  have eI : h₂.get? h₁.objs.size = some o := up _ _ (hH2 ▸ Heap.get?_push_of_some _ (Heap.get?_push_size _ Y.nf))
  have eD : h₂.get? (h₁.objs.size + 1) = some (lst [] 0) := up _ _ (by rw [← hH2, ← hD]; exact Heap.get?_push_size _ rfl)
  have none_ge : ∀ b, h₁.objs.size ≤ b → g.get? b = none := fun b hb => by
    cases e : g.get? b with
    | none => rfl
    | some o => exact absurd (Heap.lt_size (hg _ _ e)) (Nat.not_lt.mpr hb)
  have B : Bd h₁ g H2.objs.size [] (fun _ => none) (fun _ => none) [(h₁.objs.size + 1, isLst []), (h₁.objs.size, fun o' => o' = o)] g h₂ := by
    refine ⟨(by simpa using hns₁), (fun n c h => by cases h), .nil, (fun n c h => by cases h), old, (by rw [hC]; lia  ), ?_, LE.rfl', hg.tr old, (fun _ _ e => e), none_ge _ (by rw [hC]; lia  ), (fun n c h => by cases h), (fun n c h => by cases h), ?_, ?_⟩
    · have := hns₁.lt; exact Nat.le_trans (by rw [hC]; lia  ) (Nat.le_of_lt this)
    · intro p hp
      rcases List.mem_cons.mp hp with rfl | hp
      · exact ⟨⟨_, eD, 0, rfl⟩, none_ge _ (Nat.le_succ _), Nat.le_succ _, (by show h₁.objs.size + 1 ≠ H2.objs.size; lia  ), (fun n c h => by cases h)⟩
      · rcases List.mem_cons.mp hp with rfl | hp
        · exact ⟨⟨_, eI, rfl⟩, none_ge _ (Nat.le_refl _), Nat.le_refl _, (by show h₁.objs.size ≠ H2.objs.size; lia  ), (fun n c h => by cases h)⟩
        · cases hp
    · refine List.pairwise_cons.mpr ⟨fun p hp => ?_, List.pairwise_cons.mpr ⟨(fun p hp => by cases hp), .nil⟩⟩
      rw [List.mem_singleton.mp hp]; show h₁.objs.size + 1 ≠ h₁.objs.size; lia  
  have run := (loop H2.objs.size (h₁.objs.size + 1) _ h₂ (tk + ([] : List (Str × Value)).length) rfl B).run
  have run' := codeAny_mono run (R' := RR (.ref (h₁.objs.size + 1)) H2.objs.size) fun r s' hr => by
    obtain ⟨f, h', tk', m', out, own', g', rfl, rfl, B', hp⟩ := hr
    exact hRR _ _ _ _ _ _ _ _ _ B' hp
  rw [hD]
  exact start_of rfl run' fun Q E hq => Y.self _ _ _ (hg.tr old) eI hq

/-- what a comprehension's caller brings -/
inductive CompIn (prog : Program) (w : World) (A : Around) (env : Env) (elt : Expr) (gs' : List Comprehension) (scope : Scope) (pos : Pos) (target iter : Expr) (ifs : List Expr) (cl : List (Str × Addr)) (Q : Value → Shared → Prop) (x : Value) (s₁ : Shared) : Prop
  | mk (h₁ : Heap) (gs : Array GenState) (dr : Drawn) (tk₁ : Nat) (os : OsState) (g : Heap) (o : Obj) (Post : List Value → Heap → Prop) (es : s₁ = ⟨h₁, gs, dr, tk₁, os⟩) (hg : LE g h₁) (Y : Ready prog w A h₁ g x o) (hm : ∀ out a b, LE a b → Post out a → Post out b)
      (loop : ∀ C D I h₄ tk₄, I = h₁.objs.size → Bd h₁ g C [] (fun _ => none) (fun _ => none) [(D, isLst []), (I, fun o' => o' = o)] g h₄ →
        Cd prog w A (.compLoop (.ListComp elt (⟨target, iter, ifs, 0⟩ :: gs') scope pos) 0 (.ref I) (.ref D) (compEnvC scope cl C env)) (CompEnd h₁ gs dr os g C D Post) ⟨h₄, gs, dr, tk₄, os⟩)
      (k : ∀ g' h' tk' D out n, Stp g h₁ g' h' → g'.get? D = some (lst out n) → Post out g' → Q (.ref D) ⟨h', gs, dr, tk', os⟩)
inductive CompInA (prog : Program) (w : World) (A : Around) (env : Env) (elt : Expr) (gs' : List Comprehension) (scope : Scope) (pos : Pos) (target iter : Expr) (ifs : List Expr) (cl : List (Str × Addr)) (L : Addr) (y : Str) (Q : Flow → Shared → Prop) (x : Value) (s₁ : Shared) : Prop
  | mk (h₁ : Heap) (gs : Array GenState) (dr : Drawn) (tk₁ : Nat) (os : OsState) (g : Heap) (o : Obj) (Post : List Value → Heap → Prop) (h₀ g₀ : Heap) (cs : List (Str × Addr)) (m cm : Str → Option Value) (own : List (Addr × (Obj → Prop)))
      (es : s₁ = ⟨h₁, gs, dr, tk₁, os⟩) (Bo : Bd h₀ g₀ L cs m cm own g h₁) (Y : Ready prog w A h₁ g x o) (hm : ∀ out a b, LE a b → Post out a → Post out b)
      (loop : ∀ C D I h₄ tk₄, I = h₁.objs.size → Bd h₁ g C [] (fun _ => none) (fun _ => none) [(D, isLst []), (I, fun o' => o' = o)] g h₄ →
        Cd prog w A (.compLoop (.ListComp elt (⟨target, iter, ifs, 0⟩ :: gs') scope pos) 0 (.ref I) (.ref D) (compEnvC scope cl C env)) (CompEnd h₁ gs dr os g C D Post) ⟨h₄, gs, dr, tk₄, os⟩)
      (k : ∀ g' h' tk' D out n, Bd h₀ g₀ L cs (upd m y (.ref D)) cm own g' h' → LE g g' → g'.get? D = some (lst out n) → Post out g' → Q .next ⟨h', gs, dr, tk', os⟩)

/-- a comprehension as an expression -/
theorem comp_eval {elt : Expr} {gs' : List Comprehension} {scope : Scope} {pos : Pos} {target iter : Expr} {ifs : List Expr} {cl : List (Str × Addr)} {Q : Value → Shared → Prop}
    (hclos : closureFor scope env = pure cl) (hcell : ∀ y ∈ scope.names, y.2 ≠ .cell) (hkind : scope.kind = .function) (hnames : ∀ y ∈ scope.names, y.2 = .local → scope.names.lookup y.1 = some .local)
    (h : Wp prog w A (eval iter env) (CompIn prog w A env elt gs' scope pos target iter ifs cl Q) s)
    (hs : ∀ x, foldedSetIterable iter env x = pure x := by intro _; rfl) :
    Wp prog w A (eval (.ListComp elt (⟨target, iter, ifs, 0⟩ :: gs') scope pos) env) Q s := by
  rw [eval_ListComp]
  refine ⟨wpAny_comprehension_free (use := none) rfl hs hclos hkind hnames (wpAny_mono h.run (fun x s₁ h₁ => ?_) fun _ _ e => e)⟩
  obtain ⟨h₁, gs, dr, tk₁, os, g, o, Post, rfl, hg, Y, hm, loop, k⟩ := h₁
  refine comp_core hcell hkind hg Y loop fun C D f h' tk' m' out own' g' B hp => ⟨m', B.ns, fun h'' hs'' => ?_⟩
  obtain ⟨g2, o2, B3, l1, e1, ⟨n, rfl⟩, _⟩ := (B.freeze (pre := []))
  have X := B3.exit
  refine k g2 h'' tk' D out n ⟨X.le, fun b o' e => hs''.extBut b o' (fun q => by rw [q, B3.offL] at e; cases e) (X.le' b o' e), fun b o' e => hs''.extBut b o' (Nat.ne_of_lt (Nat.lt_of_lt_of_le (Heap.lt_size e) B3.sz)) (X.kp b o' e), ?_, X.off⟩ e1 (hm _ _ _ l1 hp)
  rw [hs''.1]; exact X.sz

/-- a comprehension that is bound to a name of the frame on its own row -/
theorem comp_assign {elt : Expr} {gs' : List Comprehension} {scope : Scope} {pos spos py : Pos} {y : Str} {target iter : Expr} {ifs : List Expr} {cl : List (Str × Addr)} {Q : Flow → Shared → Prop} {names : List (Str × NameKind)} {L : Addr} {cs' : List (Str × Addr)}
    (V : Ev env names L cs') (hy : names.lookup y = some .local)
    (hsw : swapsWith (.ListComp elt (⟨target, iter, ifs, 0⟩ :: gs') scope pos) (some (.Name y py)) spos.line env = pure true)
    (hclos : closureFor scope env = pure cl) (hcell : ∀ y ∈ scope.names, y.2 ≠ .cell) (hkind : scope.kind = .function) (hnames : ∀ y ∈ scope.names, y.2 = .local → scope.names.lookup y.1 = some .local)
    (h : Wp prog w A (eval iter env) (CompInA prog w A env elt gs' scope pos target iter ifs cl L y Q) s)
    (hs : ∀ x, foldedSetIterable iter env x = pure x := by intro _; rfl) :
    Wp prog w A (exec (.Assign [.Name y py] (.ListComp elt (⟨target, iter, ifs, 0⟩ :: gs') scope pos) spos) env) Q s := by
  rw [exec_Assign_Name_used _ _ _ _ hsw]
  refine ⟨wpAny_bind (wpAny_standAt (wpAny_bind ?_))⟩
  show wpAny _ A (do let _ ← comprehension (.ListComp elt (⟨target, iter, ifs, 0⟩ :: gs') scope pos) scope env _ (newList []) false (eval iter env) (some (assign (.Name y py) env))) _ _ s
  refine wpAny_bind (wpAny_mono (wpAny_comprehension_free (use := some (assign (.Name y py) env)) (Q := fun _ s' => Q .next s') rfl hs hclos hkind hnames (wpAny_mono h.run (fun x s₁ h₁ => ?_) fun _ _ e => e)) (fun _ s' hq => wpAny_pure (wpAny_pure hq)) fun _ _ e => e)
  obtain ⟨h₁, gs, dr, tk₁, os, g, o, Post, h₀, g₀, cs, m, cm, own, rfl, Bo, Y, hm, loop, k⟩ := h₁
  refine comp_core (RR := fun acc C => compPost (model prog w) A (fun _ _ => False) (some (assign (.Name y py) env)) (fun _ s' => Q .next s') acc C) hcell hkind Bo.le Y loop fun C D f h' tk' m' out own' g' B hp => ?_
  obtain ⟨g2, o2, B3, l1, e1, ⟨n, rfl⟩, _⟩ := (B.freeze (pre := []))
  have Bo2 := Bo.pure B3.exit
  have hCL : C ≠ L := fun q => absurd (Nat.lt_of_lt_of_le Bo.ns.lt B.sz) (by rw [q]; exact Nat.lt_irrefl _)
  show wpAny _ A (assign (.Name y py) env (.ref D)) _ _ _
  refine wpAny_assign_Name (wpAny_storeName_local (by rw [V.kindOf]; exact hy) (by rw [V.lc]; exact Bo2.ns) (fun h2 hn2 hs2 => ?_) (by rw [V.kd]; rfl))
  rw [V.lc] at hn2 hs2
  have Bo3 := Bo2.setL hn2 hs2
  refine ⟨m', B3.ns.sameBut hs2 hCL, fun h3 hs3 => ?_⟩
  have Bo4 := Bo3.other hs3 (Nat.le_trans Bo.szh B.sz) B3.offL hCL (fun n c e q => absurd (Bo.szC n c e) (by rw [← q]; exact Nat.not_lt.mpr B.sz))
    (fun p hp q => by
      obtain ⟨⟨op, ep, _⟩, _⟩ := Bo.has p hp
      exact absurd (Heap.lt_size ep) (by rw [← q]; exact Nat.not_lt.mpr B.sz))
  exact k g2 h3 _ D out n Bo4 B3.exit.le e1 (hm _ _ _ l1 hp)
end
end Mine
end
section
open PySem PySem.W PyProof.Rows
set_option maxRecDepth 100000
namespace Mine

theorem Stp.push2 {g h : Heap} (x : LE g h) (o o' : Obj) (hf : o'.isFreed = false) : ∃ g', Stp g h g' ((h.push o).push o') ∧ g'.get? (h.objs.size + 1) = some o' := by
  obtain ⟨g', s, n⟩ := Stp.full x (h' := (h.push o).push o') (fun b o' e => Heap.get?_push_of_some _ (Heap.get?_push_of_some _ e)) (by rw [Heap.size_push, Heap.size_push]; lia  )
  exact ⟨g', s, n _ _ (Nat.le_succ _) (by rw [← Heap.size_push h o]; exact Heap.get?_push_size _ hf)⟩
theorem Stp.hid {g h : Heap} (hg : LE g h) (o : Obj) : Stp g h g (h.push o) :=
  ⟨LE.rfl', hg.tr (fun _ _ e => Heap.get?_push_of_some _ e), fun _ _ e => Heap.get?_push_of_some _ e, by rw [Heap.size_push]; lia  , fun _ _ e => e⟩

section
variable {prog : Program} {w : World} {A : Around} {hp : Heap} {gs : Array GenState} {dr : Drawn} {tk : Nat} {os : OsState} {env : Env} {g : Heap}

/-- what a display asks behind its items; mk: the object that is made -/
inductive PackP (mk : List Value → Nat → Obj) (Q : Value → Shared → Prop) (vs : List Value) (s₁ : Shared) : Prop
  | mk (h₁ : Heap) (gs : Array GenState) (dr : Drawn) (tk₁ : Nat) (os : OsState) (g : Heap) (es : s₁ = ⟨h₁, gs, dr, tk₁, os⟩) (hg : LE g h₁) (hsz : vs.length ≤ sizeLine) (k : ∀ g' h' a, Stp g h₁ g' h' → g'.get? a = some (mk vs 0) → Q (.ref a) ⟨h', gs, dr, tk₁, os⟩)
inductive PackO (Q : Value → Shared → Prop) (vs : List Value) (s₁ : Shared) : Prop
  | mk (h₁ : Heap) (gs : Array GenState) (dr : Drawn) (tk₁ : Nat) (os : OsState) (es : s₁ = ⟨h₁, gs, dr, tk₁, os⟩) (hsz : vs.length ≤ sizeLine) (k : ∀ h' a, h' = h₁.push (lst vs 0) → a = h₁.objs.size → Q (.ref a) ⟨h', gs, dr, tk₁, os⟩)
inductive PackS (prog : Program) (w : World) (A : Around) (value : Expr) (lo up st : Option Expr) (p : Pos) (Q : Value → Shared → Prop) (o l u k : Value) (s₄ : Shared) : Prop
  | mk (h₁ : Heap) (gs : Array GenState) (dr : Drawn) (tk₁ : Nat) (os : OsState) (es : s₄ = ⟨h₁, gs, dr, tk₁, os⟩)
    (h : Wp prog w A (subscriptTail value (.Slice lo up st p) o (.ref h₁.objs.size)) Q ⟨h₁.push { cls := .type "slice", data := .fields #[l, u, k] }, gs, dr, tk₁, os⟩)
inductive PackM (K : Addr → Prop) (ov : Value) (s₁ : Shared) : Prop
  | mk (D : Addr) (vs : List Value) (n : Nat) (eo : ov = .ref D) (e : s₁.heap.get? D = some (lst vs n)) (k : K D)

section
variable (prog : Program) (w : World) (A : Around) (env : Env) (value : Expr) (lo up st : Option Expr) (p : Pos) (Q : Value → Shared → Prop)
noncomputable abbrev kS3 (o l : Value) : Value → Shared → Prop := fun u s => Wp prog w A (evalPart st env) (PackS prog w A value lo up st p Q o l u) s
noncomputable abbrev kS2 (o : Value) : Value → Shared → Prop := fun l s => Wp prog w A (evalPart up env) (kS3 prog w A env value lo up st p Q o l) s
noncomputable abbrev kS1 : Value → Shared → Prop := fun o s => Wp prog w A (evalPart lo env) (kS2 prog w A env value lo up st p Q o) s
noncomputable abbrev kMeth2 (id : String) (Q : Flow → Shared → Prop) (D : Addr) : Value → Shared → Prop := fun y s => Wp prog w A (call (.builtin id) [.ref D, y]) (fun _ => Q .next) s
noncomputable abbrev kMeth1 (id : String) (elt : Expr) (Q : Flow → Shared → Prop) (s : Shared) : Addr → Prop := fun D => Wp prog w A (eval elt env) (kMeth2 prog w A id Q D) s
noncomputable abbrev kMeth (id : String) (elt : Expr) (Q : Flow → Shared → Prop) : Value → Shared → Prop := fun ov s => PackM (kMeth1 prog w A env id elt Q s) ov s
end

/-- a list display whose list is not changed any more -/
theorem dispP {elts : List Expr} {pos : Pos} {Q : Value → Shared → Prop} {s : Shared}
    (h : Wp prog w A (spliced (backTo pos (starEach elts env))) (PackP lst Q) s) :
    Wp prog w A (eval (.List elts pos) env) Q s := by
  refine ⟨wpAny_List_spliced (wpAny_mono h.run (fun vs s₁ h₁ => ?_) fun _ _ e => e)⟩
  obtain ⟨h₁, gs, dr, tk₁, os, g, rfl, hg, hsz, k⟩ := h₁
  obtain ⟨g', S, e⟩ := Stp.push hg (lst vs 0) rfl
  exact ⟨hsz, k g' _ _ S e⟩
/-- a list display for a list of the body's own -/
theorem dispO {elts : List Expr} {pos : Pos} {Q : Value → Shared → Prop} {s : Shared}
    (h : Wp prog w A (spliced (backTo pos (starEach elts env))) (PackO Q) s) :
    Wp prog w A (eval (.List elts pos) env) Q s := by
  refine ⟨wpAny_List_spliced (wpAny_mono h.run (fun vs s₁ h₁ => ?_) fun _ _ e => e)⟩
  obtain ⟨h₁, gs, dr, tk₁, os, rfl, hsz, k⟩ := h₁
  exact ⟨hsz, k _ _ rfl rfl⟩
theorem Bd.mk1 {h₀ g₀ h h' : Heap} {L a : Addr} {cs : List (Str × Addr)} {m cm : Str → Option Value} {own : List (Addr × (Obj → Prop))} {vs : List Value} (B : Bd h₀ g₀ L cs m cm own g h) (e1 : h' = h.push (lst vs 0)) (e2 : a = h.objs.size) :
    Bd h₀ g₀ L cs m cm ((a, isLst vs) :: own) g h' := by subst e1 e2; exact B.newO (o := lst vs 0) (q := isLst vs) ⟨0, rfl⟩
/-- a tuple display -/
theorem dispT {elts : List Expr} {x1 : Nat} {pos : Pos} {Q : Value → Shared → Prop} {s : Shared}
    (h : Wp prog w A (spliced (backTo pos (starEach elts env))) (PackP tup Q) s) :
    Wp prog w A (eval (.Tuple elts x1 pos) env) Q s := by
  refine ⟨wpAny_Tuple_spliced (wpAny_mono h.run (fun vs s₁ h₁ => ?_) fun _ _ e => e)⟩
  obtain ⟨h₁, gs, dr, tk₁, os, g, rfl, hg, hsz, k⟩ := h₁
  obtain ⟨g', S, e⟩ := Stp.push hg (tup vs 0) rfl
  exact ⟨hsz, k g' _ _ S e⟩

theorem list_add {a b : Addr} {vs ws : List Value} {na nb : Nat} {Q : Value → Shared → Prop} (hg : LE g hp) (ha : g.get? a = some (lst vs na)) (hb : g.get? b = some (lst ws nb)) (hsz : vs.length + ws.length ≤ sizeLine)
    (h : ∀ g' h' c, Stp g hp g' h' → g'.get? c = some (lst (vs ++ ws) 0) → Q (.ref c) ⟨h', gs, dr, tk, os⟩) : Wp prog w A (binaryOp .Add (.ref a) (.ref b)) Q ⟨hp, gs, dr, tk, os⟩ := by
  have e : vs.toArray ++ ws.toArray = (vs ++ ws).toArray := by simp
  refine ⟨concat_meets ⟨_, hg _ _ ha, rfl⟩ ⟨_, hg _ _ hb, rfl⟩ noFill_list_add seq_list_add PySem.F.slot_list_add PySem.F.entry_list_add (PySem.F.args_list_add_2 _ _) (list_addW a b vs.toArray ws.toArray na nb none none #[] #[] (by simpa using hsz)) ⟨hg _ _ ha, hg _ _ hb, ?_⟩⟩
  rw [e]
  obtain ⟨g', S, e⟩ := Stp.push hg (lst (vs ++ ws) 0) rfl
  exact h g' _ _ S e

/-- x[i], i a plain int: the item -/
theorem item_at {value slice : Expr} {l : Addr} {its : Array Value} {k : Int} {u : Tok} {x : Value} {Q : Value → Shared → Prop} (hl : hp.IsList l its) (h0 : 0 ≤ k) (hhi : k < 2 ^ 63) (hx : its[k.toNat]? = some x) (h : Q x ⟨hp, gs, dr, tk, os⟩)
    (hs : subscripted slice false (.ref l) (.int k u) = operate [.ref l, .int k u] (getItem (.ref l) (.int k u)) := by with_unfolding_all rfl) :
    Wp prog w A (subscriptTail value slice (.ref l) (.int k u)) Q ⟨hp, gs, dr, tk, os⟩ := ⟨tail_any (Heap.IsList.typeIs (s := ⟨hp, gs, dr, tk, os⟩) hl) slot_list_getitem.lookup (wpAny_getItem_list hl h0 hhi hx h) hs⟩
theorem item_neg {value slice : Expr} {l : Addr} {its : Array Value} {k : Int} {u : Tok} {x : Value} {Q : Value → Shared → Prop} (hl : hp.IsList l its) (h0 : k < 0) (hlo : -(its.size : Int) ≤ k) (h64 : -2 ^ 63 ≤ k) (hx : its[(k + its.size).toNat]? = some x) (h : Q x ⟨hp, gs, dr, tk, os⟩)
    (hs : subscripted slice false (.ref l) (.int k u) = operate [.ref l, .int k u] (getItem (.ref l) (.int k u)) := by with_unfolding_all rfl) :
    Wp prog w A (subscriptTail value slice (.ref l) (.int k u)) Q ⟨hp, gs, dr, tk, os⟩ := ⟨tail_any (Heap.IsList.typeIs (s := ⟨hp, gs, dr, tk, os⟩) hl) slot_list_getitem.lookup (wpAny_getItem_list_neg hl h0 hlo h64 hx h) hs⟩

/-- x[-1] -/
theorem item_last {value slice : Expr} {l : Addr} {vs : List Value} {x : Value} {n : Nat} {u : Tok} {Q : Value → Shared → Prop} (e : hp.get? l = some (lst (vs ++ [x]) n)) (h : Q x ⟨hp, gs, dr, tk, os⟩)
    (hs : subscripted slice false (.ref l) (.int (-1) u) = operate [.ref l, .int (-1) u] (getItem (.ref l) (.int (-1) u)) := by with_unfolding_all rfl) :
    Wp prog w A (subscriptTail value slice (.ref l) (.int (-1) u)) Q ⟨hp, gs, dr, tk, os⟩ := by
  refine item_neg (isList_of e) (by decide) (by simp; lia  ) (by decide) (x := x) ?_ h hs
  have : (-1 + (((vs ++ [x]).toArray.size : Nat) : Int)).toNat = vs.length := by simp; lia  
  rw [this]; simp

/-- x[i:j:k]: a new list -/
theorem slice_tail {value slice : Expr} {l : Addr} {its : Array Value} {vl vu vk : Value} {lo hi st : Option Int} {ops : List Value} {Q : Value → Shared → Prop} (hg : LE g hp) (hl : hp.IsList l its) (pl : IsPart vl lo) (pu : IsPart vu hi) (pk : IsPart vk st) (h0 : st ≠ some 0) (hsz : its.size ≤ sizeLine)
    (h : ∀ g' h' c, Stp g hp g' h' → g'.get? c = some (lst (slicePick its lo hi st).toList 0) → Q (.ref c) ⟨h', gs, dr, tk, os⟩)
    (hs : subscripted slice false (.ref l) (.ref hp.objs.size) = operate ops (getItem (.ref l) (.ref hp.objs.size)) := by with_unfolding_all rfl) :
    Wp prog w A (subscriptTail value slice (.ref l) (.ref hp.objs.size)) Q ⟨hp.push { cls := .type "slice", data := .fields #[vl, vu, vk] }, gs, dr, tk, os⟩ := by
  refine ⟨tail_any (Heap.IsList.typeIs (s := ⟨hp.push { cls := .type "slice", data := .fields #[vl, vu, vk] }, gs, dr, tk, os⟩) (hl.push _)) slot_list_getitem.lookup
    (wpAny_getItem_list_slice (hl.push _) (Heap.IsSliceOf.new ..) pl pu pk h0 ?_ hsz) hs⟩
  have S1 := Stp.hid hg { cls := .type "slice", data := .fields #[vl, vu, vk] }
  obtain ⟨g', S2, e⟩ := Stp.push S1.le' (lst (slicePick its lo hi st).toList 0) rfl
  have S3 := S1.tr S2
  have e2 : (lst (slicePick its lo hi st).toList 0) = ({ cls := .type "list", data := .seq (slicePick its lo hi st) } : Obj) := by simp [lst]
  rw [e2] at S3
  exact h g' _ _ S3 e

/-- the parts of a slice, then its tail -/
theorem eSlice {value : Expr} {lo up st : Option Expr} {p pos : Pos} {Q : Value → Shared → Prop} {s : Shared}
    (h : Wp prog w A (eval value env) (kS1 prog w A env value lo up st p Q) s) :
    Wp prog w A (eval (.Subscript value (.Slice lo up st p) pos) env) Q s := by
  refine ⟨Subscript_ (wpAny_mono h.run (fun o s₁ h₁ => wpAny_Slice (wpAny_mono h₁.run (fun l s₂ h₂ => wpAny_mono h₂.run (fun u s₃ h₃ => wpAny_mono h₃.run (fun k s₄ h₄ => ?_) fun _ _ e => e) fun _ _ e => e) fun _ _ e => e)) fun _ _ e => e)⟩
  obtain ⟨h₁, gs, dr, tk₁, os, rfl, h₄⟩ := h₄
  exact h₄.run

theorem pick_upto (vs : List Value) (k : Nat) : (slicePick vs.toArray none (some (k : Int)) none).toList = vs.take k := by rw [slicePick_upto' vs.toArray k]
theorem pick_from (vs : List Value) (k : Nat) : (slicePick vs.toArray (some (k : Int)) none none).toList = vs.drop k := by rw [slicePick_from' vs.toArray k]

theorem lenL {l : Addr} {its : Array Value} {Q : Value → Shared → Prop} (hl : hp.IsList l its) (hf : (its.size : Int) < 2 ^ 63) (h : ∀ t tk', Q (.int its.size t) ⟨hp, gs, dr, tk', os⟩) : Wp prog w A (call (.builtin "len") [.ref l]) Q ⟨hp, gs, dr, tk, os⟩ :=
  ⟨Calls.call_len_list hl hf (h _ _)⟩

/-- append to an own list -/
theorem append_own {h₀ g₀ : Heap} {L : Addr} {cs : List (Str × Addr)} {m cm : Str → Option Value} {pre post : List (Addr × (Obj → Prop))} {D : Addr} {vs : List Value} {x : Value} {Q : Value → Shared → Prop}
    (B : Bd h₀ g₀ L cs m cm (pre ++ (D, isLst vs) :: post) g hp) (hsz : vs.length ≤ sizeLine)
    (h : ∀ h', Bd h₀ g₀ L cs m cm (pre ++ (D, isLst (vs ++ [x])) :: post) g h' → Q .none ⟨h', gs, dr, tk, os⟩) : Wp prog w A (call (.builtin "list.append") [.ref D, x]) Q ⟨hp, gs, dr, tk, os⟩ := by
  obtain ⟨o, e, n, rfl⟩ := B.at (List.mem_append_right _ (.head _))
  refine ⟨wpAny_list_append_plain (items := vs.toArray) ⟨n, e⟩ (fun h' hl hs => ?_) (by simpa using hsz)⟩
  obtain ⟨k, e'⟩ := hl
  exact h h' (B.setO e' ⟨k, by simp [lst]⟩ hs.extBut (Nat.le_of_eq hs.1.symm))

/-- o.append(x) as a statement -/
theorem sAppend {o elt : Expr} {apos pos epos : Pos} {Q : Flow → Shared → Prop} {s : Shared}
    (h : Wp prog w A (eval o env) (kMeth prog w A env "list.append" elt Q) s)
    (hi : interactive env = false)
    (hbase : attributeBase o "append" env (eval o env) = eval o env := by rfl)
    (hfew : ((backTo pos (starEach [elt] env)).all (fun x => !x.1) && (backToKw pos (keywordEach [] env)).all (fun x => x.1.isSome)
      && decide (([elt] : List Expr).length + ([] : List Keyword).length + (if ([] : List Keyword).isEmpty then 0 else 1) < 30)) = true := by rfl)
    (hline : (apos.endLine == pos.line) = true := by rfl) (htrees : backTo pos (starEach [elt] env) = [(false, eval elt env)] := by rfl) :
    Wp prog w A (exec (.Expr (.Call (.Attribute o "append" apos) [elt] [] pos) epos) env) Q s := by
  refine ⟨wpAny_Expr_any (wpAny_Call_append hbase hfew hline htrees (wpAny_mono h.run (fun ov s₁ h₁ => ?_) fun _ _ e => e)) hi (by rfl)⟩
  obtain ⟨D, vs, n, rfl, e, k⟩ := h₁
  exact ⟨D, vs.toArray, rfl, ⟨_, n, e, rfl, rfl, rfl⟩, k.two⟩
end
end Mine
end
section
open PySem PySem.W PyProof.Rows
set_option maxRecDepth 100000
namespace Mine

theorem fm_one {α β : Type} (f : α → β) (l : List α) : l.flatMap (fun x => [f x]) = l.map f := by
  induction l with
  | nil => rfl
  | cons x l ih => rw [List.flatMap_cons, ih]; rfl
theorem fm_if {α : Type} (p : α → Bool) (l : List α) : l.flatMap (fun x => if p x then [x] else []) = l.filter p := by
  induction l with
  | nil => rfl
  | cons x l ih => rw [List.flatMap_cons, ih, List.filter_cons]; split <;> rfl

/-- what one turn of a comprehension's loop leaves behind -/
inductive Turned {β : Type} (gs : Array GenState) (dr : Drawn) (os : OsState) (h₁ g : Heap) (C : Addr) (own : List Value → List (Addr × (Obj → Prop))) (Km : (Str → Option Value) → Prop) (R : Heap → Value → β → Prop) (g' : Heap) (out : List Value) (fx : List β) (s : Shared) : Prop
  | mk (h5 : Heap) (tk5 : Nat) (m5 : Str → Option Value) (g5 : Heap) (ys : List Value) (es : s = ⟨h5, gs, dr, tk5, os⟩) (le : LE g' g5) (km : Km m5) (B : Bd h₁ g C [] m5 (fun _ => none) (own (out ++ ys)) g5 h5) (r : All2 (R g5) ys fx)
inductive Emit {β : Type} (gs : Array GenState) (dr : Drawn) (os : OsState) (h₁ g : Heap) (C : Addr) (own : List (Addr × (Obj → Prop))) (Km : (Str → Option Value) → Prop) (R : Heap → Value → β → Prop) (g' : Heap) (y : β) (v : Value) (s₅ : Shared) : Prop
  | mk (h5 : Heap) (tk5 : Nat) (m5 : Str → Option Value) (g5 : Heap) (es : s₅ = ⟨h5, gs, dr, tk5, os⟩) (le : LE g' g5) (km : Km m5) (B : Bd h₁ g C [] m5 (fun _ => none) own g5 h5) (r : R g5 v y)

noncomputable abbrev ownD (D : Addr) (own : List (Addr × (Obj → Prop))) : List Value → List (Addr × (Obj → Prop)) := fun o => (D, isLst o) :: own
section
variable {prog : Program} {w : World} {A : Around} {gs : Array GenState} {dr : Drawn} {tk : Nat} {os : OsState} {env : Env} {h₁ g g₁ : Heap} {C D I : Addr} {rest : List (Addr × (Obj → Prop))}

theorem compL {α β : Type} {elt : Expr} {gens : List Comprehension} {scope : Scope} {pos : Pos} {d : Nat} {target iter : Expr} {ifs : List Expr} {n : Nat} {P : Nat → Value → Prop} {St : Nat → Obj → Prop} {gI : Heap} {xs : List α} {out₀ : List Value} {m : Str → Option Value} {hp : Heap} {R₀ : Result → Shared → Prop}
    (hg : gens[d]? = some ⟨target, iter, ifs, 0⟩) (hpl : PlainAt gens (d + 1)) (W : It prog w A gI I n P St) (hgI : LE gI g₁) (hn : n = xs.length) (Rs : Value → α → Prop) (hP : ∀ i v, P i v → ∃ x, xs[i]? = some x ∧ Rs v x)
    (Km : (Str → Option Value) → Prop) (R : Heap → Value → β → Prop) (hR : ∀ a b v y, LE a b → R a v y → R b v y) (f : α → List β)
    (turn : ∀ i v x m' ys g' h' tk', xs[i]? = some x → Rs v x → LE g₁ g' → Km m' → All2 (R g') ys ((xs.take i).flatMap f) → Bd h₁ g C [] m' (fun _ => none) ((D, isLst (out₀ ++ ys)) :: (I, St (i + 1)) :: rest) g' h' →
      Wp prog w A (letOwnedTupleGo target (.ref I) v) (kU prog w A (assign target env v) (kU prog w A (testsOf ifs env) (kTest prog w A env elt gens scope pos d (.ref D) (Turned gs dr os h₁ g C (ownD D ((I, St (i + 1)) :: rest)) Km R g' (out₀ ++ ys) (f x))))) ⟨h', gs, dr, tk', os⟩)
    (hm : Km m) (B : Bd h₁ g C [] m (fun _ => none) ((D, isLst out₀) :: (I, St 0) :: rest) g₁ hp)
    (fin : ∀ h' tk' m' g' ys, LE g₁ g' → Km m' → Bd h₁ g C [] m' (fun _ => none) ((D, isLst (out₀ ++ ys)) :: rest) g' h' → All2 (R g') ys (xs.flatMap f) → R₀ (.ok .next) ⟨h', gs, dr, tk', os⟩) :
    Cd prog w A (.compLoop (.ListComp elt gens scope pos) d (.ref I) (.ref D) env) R₀ ⟨hp, gs, dr, tk, os⟩ := by
  refine comp_loop hg hpl n (fun i s => ∃ h' tk' m' g' ys, s = ⟨h', gs, dr, tk', os⟩ ∧ LE g₁ g' ∧ Km m' ∧ Bd h₁ g C [] m' (fun _ => none) ((D, isLst (out₀ ++ ys)) :: (I, St i) :: rest) g' h' ∧ All2 (R g') ys ((xs.take i).flatMap f)) ?turn ?last
    ⟨hp, tk, m, g₁, [], rfl, LE.rfl', hm, by rw [List.append_nil]; exact B, by simp; exact .nil⟩
  case last =>
    rintro s ⟨h', tk', m', g', ys, rfl, hle, hm', B', hy⟩
    refine lastI (pre := [(D, isLst (out₀ ++ ys))]) W (hgI.tr hle) B' fun h2 tk2 B2 => ⟨rfl, ?_⟩
    rw [hn, List.take_length] at hy
    exact fin _ _ _ _ ys hle hm' B2 hy
  case turn =>
    rintro i s hi ⟨h', tk', m', g', ys, rfl, hle, hm', B', hy⟩
    refine stepI (pre := [(D, isLst (out₀ ++ ys))]) W (hgI.tr hle) B' hi fun v h2 tk2 hv B2 => ⟨v, rfl, ?_⟩
    obtain ⟨x, hx, hrs⟩ := hP i v hv
    refine (turn i v x m' ys g' h2 tk2 hx hrs hle hm' hy B2).mono fun _ s₂ q => q.mono fun _ s₃ q => q.mono fun ok s₄ q => ?_
    have fwd : ∀ s₅, Turned gs dr os h₁ g C (fun o => (D, isLst o) :: (I, St (i + 1)) :: rest) Km R g' (out₀ ++ ys) (f x) s₅ →
        ∃ h' tk' m' g' ys, s₅ = ⟨h', gs, dr, tk', os⟩ ∧ LE g₁ g' ∧ Km m' ∧ Bd h₁ g C [] m' (fun _ => none) ((D, isLst (out₀ ++ ys)) :: (I, St (i + 1)) :: rest) g' h' ∧ All2 (R g') ys ((xs.take (i + 1)).flatMap f) := by
      rintro s₅ ⟨h5, tk5, m5, g5, zs, rfl, l5, k5, B5, r5⟩
      refine ⟨h5, tk5, m5, g5, ys ++ zs, rfl, hle.tr l5, k5, by rw [← List.append_assoc]; exact B5, ?_⟩
      rw [List.take_add_one, hx, List.flatMap_append]
      exact (hy.imp fun v y => hR _ _ v y l5).app (by simpa using r5)
    cases ok with
    | true =>
      have q' : Wp prog w A (inner elt gens scope pos d (.ref D) env) (fun _ s₅ => Turned gs dr os h₁ g C (fun o => (D, isLst o) :: (I, St (i + 1)) :: rest) Km R g' (out₀ ++ ys) (f x) s₅) s₄ := q
      exact q'.mono fun _ s₅ q => fwd s₅ q
    | false => exact fwd s₄ q

/-- the last clause: the element, appended -/
theorem emit_one {β : Type} {elt : Expr} {gens : List Comprehension} {scope : Scope} {pos : Pos} {d : Nat} {own : List (Addr × (Obj → Prop))} {Km : (Str → Option Value) → Prop} {R : Heap → Value → β → Prop} {g' : Heap} {out : List Value} {y : β} {s : Shared}
    (h : Wp prog w A (eval elt env) (Emit gs dr os h₁ g C ((D, isLst out) :: own) Km R g' y) s) (hsz : out.length ≤ sizeLine) (hg : gens[d + 1]? = none := by rfl) :
    Wp prog w A (inner elt gens scope pos d (.ref D) env) (fun _ => Turned gs dr os h₁ g C (ownD D own) Km R g' out [y]) s := by
  refine inner_emit (h.mono fun v s₅ q => ?_) hg
  obtain ⟨h5, tk5, m5, g5, rfl, l5, k5, B5, r5⟩ := q
  exact append_own (pre := []) B5 hsz fun h6 B6 => ⟨h6, _, m5, g5, [v], rfl, l5, k5, B6, .one r5⟩
/-- a turn that brings nothing -/
theorem turned_nil {β : Type} {own : List Value → List (Addr × (Obj → Prop))} {Km : (Str → Option Value) → Prop} {R : Heap → Value → β → Prop} {g' g5 h5 : Heap} {m5 : Str → Option Value} {out : List Value} (l5 : LE g' g5) (k5 : Km m5) (B5 : Bd h₁ g C [] m5 (fun _ => none) (own out) g5 h5) :
    Turned gs dr os h₁ g C own Km R g' out ([] : List β) ⟨h5, gs, dr, tk, os⟩ := ⟨h5, tk, m5, g5, [], rfl, l5, k5, by rw [List.append_nil]; exact B5, .nil⟩
end
end Mine
end
section
open PySem PySem.W PyProof.Rows
set_option maxRecDepth 100000
namespace Mine

theorem swaps_lc {e : Expr} {g : List Comprehension} {scope : Scope} {p pos : Pos} {t : Str} {line : Nat} {env : Env} {names : List (Str × NameKind)} {L : Addr} {cs : List (Str × Addr)} (V : Ev env names L cs) (hl : names.lookup t = some .local)
    (h : (pos.line == p.line && !(scope.names.any fun (n, k) => n == t && (k == .local || k == .cell))) = true) : swapsWith (.ListComp e g scope p) (some (.Name t pos)) line env = pure true := by
  have hb : (env.blockKind == ScopeKind.function) = true := by unfold Env.blockKind; rw [V.kd]; rfl
  have hk : (env.kindOf t == some NameKind.local) = true := by rw [V.kindOf, hl]; rfl
  show (pure (env.blockKind == ScopeKind.function && env.kindOf t == some NameKind.local && pos.line == p.line && !(scope.names.any fun (n, k) => n == t && (k == .local || k == .cell))) : Sem Bool) = _
  rw [hb, hk, Bool.true_and, Bool.true_and, h]
theorem sw_two {a b : Str} {pa pb tp vp : Pos} {k k' : Nat} {es fs : List Expr} {p1 p2 : Pos} {env : Env} {names : List (Str × NameKind)} {L : Addr} {cs : List (Str × Addr)} (V : Ev env names L cs) (ha : names.lookup a = some .local) (hb : names.lookup b = some .local)
    (hl : (pa.line == pa.line) = true) (hl2 : (pb.line == pa.line) = true) (hne : [a, b].eraseDups.length = 2) (hf : [Expr.List es p1, Expr.List fs p2].all (foldedForSure 8) = false) (hc : [Expr.List es p1, Expr.List fs p2].all (constantsAlone 8) = false) :
    swappedStores [.Tuple [.Name a pa, .Name b pb] k tp] (.Tuple [.List es p1, .List fs p2] k' vp) env = pure (some [a, b]) := by
  have h1 : (env.blockKind != ScopeKind.function) = false := by unfold Env.blockKind; rw [V.kd]; rfl
  have h2 : (env.kindOf a == some NameKind.local) = true := by rw [V.kindOf, ha]; rfl
  have h3 : (env.kindOf b == some NameKind.local) = true := by rw [V.kindOf, hb]; rfl
  have hn : ([Expr.Name a pa, Expr.Name b pb].filterMap fun x => match x with
      | .Name id pos => if (env.kindOf id == some NameKind.local && pos.line == pa.line) = true then some id else none
      | _ => none) = [a, b] := by
    dsimp only [List.filterMap]
    rw [h2, h3, hl, hl2]
    rfl
  show (if (false || (env.blockKind != ScopeKind.function)) = true then pure none else if ([Expr.List es p1, Expr.List fs p2].any fun x => match x with | .Starred .. => true | _ => false) = true then pure none else
    (let ns := [Expr.Name a pa, Expr.Name b pb].filterMap fun x => match x with
      | .Name id pos => if (env.kindOf id == some NameKind.local && pos.line == pa.line) = true then some id else none
      | _ => none
     if (ns.length != 2 || ns.eraseDups.length != ns.length) = true then pure none else if [Expr.List es p1, Expr.List fs p2].all (foldedForSure 8) = true then pure none else do
       if [Expr.List es p1, Expr.List fs p2].all (constantsAlone 8) = true then unsupported "assign.tuple-of-constant-expressions:order-of-the-stores"
       pure (some ns)) : Sem (Option (List Str))) = _
  rw [hn, h1]
  dsimp only
  rw [hf, hc, hne]
  rfl
theorem Bd.keep {h₀ g₀ g h h' : Heap} {L : Addr} {cs : List (Str × Addr)} {m cm : Str → Option Value} {own : List (Addr × (Obj → Prop))} (B : Bd h₀ g₀ L cs m cm own g h) (k : LE h h') : Bd h₀ g₀ L cs m cm own g h' where
  ns := B.ns.keeps k
  cell := fun n c e => (B.cell n c e).keeps k
  apart := B.apart
  above := B.above
  kp := B.kp.tr k
  sz := B.sz
  szh := Nat.le_trans B.sz (Nat.le_of_lt (B.ns.keeps k).lt)
  ge := B.ge
  le := B.le.tr k
  off := B.off
  offL := B.offL
  offC := B.offC
  szC := fun n c e => ((B.cell n c e).keeps k).lt
  has := fun p hp => by
    obtain ⟨⟨o, e, q⟩, r⟩ := B.has p hp
    exact ⟨⟨o, k _ _ e, q⟩, r⟩
  nd := B.nd

section
variable {prog : Program} {w : World} {A : Around} {s : Shared} {hp : Heap} {gs : Array GenState} {dr : Drawn} {tk : Nat} {os : OsState} {env : Env} {h₀ g₀ g : Heap} {L : Addr} {cs : List (Str × Addr)} {m cm : Str → Option Value} {own : List (Addr × (Obj → Prop))}

theorem tup_keep {h h' : Heap} (k : Heap.ExtBut h.objs.size h h') : LE h h' := fun b o e => k b o (Nat.ne_of_lt (Heap.lt_size e)) e
/-- a tuple is unpacked -/
theorem unpackT {t : Addr} {vs : List Value} {n k : Nat} {Q : List Value → Shared → Prop} (hh : A.handled = none) (B : Bd h₀ g₀ L cs m cm own g hp) (ht : g.get? t = some (tup vs n)) (hk : k = vs.length)
    (h : ∀ h', Bd h₀ g₀ L cs m cm own g h' → Q vs ⟨h', gs, dr, tk, os⟩) : Wp prog w A (unpackItems (.ref t) k none) Q ⟨hp, gs, dr, tk, os⟩ := by
  have hT : hp.IsTuple t vs.toArray := ⟨_, B.le _ _ ht, rfl, n, rfl⟩
  have := wpAny_unpackItems_tuple (prog := prog) (w := w) (E := fun _ _ => False) (s := ⟨hp, gs, dr, tk, os⟩) (Q := Q) hh hT fun h' he => by simpa using h h' (B.keep (tup_keep he))
  subst hk
  exact ⟨by simpa using this⟩
theorem assignTup {elts : List Expr} {x1 : Nat} {pos : Pos} {t : Addr} {vs : List Value} {n : Nat} {Q : Unit → Shared → Prop} (hh : A.handled = none) (B : Bd h₀ g₀ L cs m cm own g hp) (ht : g.get? t = some (tup vs n))
    (h : ∀ h', Bd h₀ g₀ L cs m cm own g h' → Wp prog w A (assignInOrder ((assignEach elts env).map (·.2)) vs) Q ⟨h', gs, dr, tk, os⟩)
    (hn : (assignEach elts env).length = vs.length := by rfl) (hstar : (assignEach elts env).findIdx? (·.1) = none := by rfl) : Wp prog w A (assign (.Tuple elts x1 pos) env (.ref t)) Q ⟨hp, gs, dr, tk, os⟩ := by
  have hT : hp.IsTuple t vs.toArray := ⟨_, B.le _ _ ht, rfl, n, rfl⟩
  exact ⟨wpAny_assign_Tuple hh hT (by simpa using hn) hstar fun h' he => (h h' (B.keep (tup_keep he))).run⟩
theorem inOrder {t : Value → Sem Unit} {ts : List (Value → Sem Unit)} {x : Value} {xs : List Value} {Q : Unit → Shared → Prop} (h : Wp prog w A (t x) (kU prog w A (assignInOrder ts xs) Q) s) : Wp prog w A (assignInOrder (t :: ts) (x :: xs)) Q s := by
  refine ⟨?_⟩
  show wpAny _ _ (holding xs (t x) >>= fun _ => assignInOrder ts xs) _ _ _
  exact wpAny_bind (wpAny_holding h.two)
theorem inOrder_nil {Q : Unit → Shared → Prop} (h : Q () s) : Wp prog w A (assignInOrder [] []) Q s := ⟨wpAny_pure h⟩
theorem bindN {x : Str} {v : Value} {Q : Unit → Shared → Prop} (h : Wp prog w A (storeName env x v) Q s) : Wp prog w A (bindName env x v) Q s := ⟨wpAny_bindName h.run⟩
theorem sAssignT {elts : List Expr} {k : Nat} {tpos pos : Pos} {value : Expr} {Q : Flow → Shared → Prop} (h : Wp prog w A (eval value env) (k1 prog w A (assign (.Tuple elts k tpos) env) (kN Q)) s)
    (hw : swappedStores [.Tuple elts k tpos] value env = pure none) (hs : swapsWithSole [.Tuple elts k tpos] value pos.line env = pure false := by rfl) : Wp prog w A (exec (.Assign [.Tuple elts k tpos] value pos) env) Q s := ⟨Assign_Tuple h.two hs hw⟩
noncomputable abbrev kSw2 (prog : Program) (w : World) (A : Around) (env : Env) (names : List Str) (Q : Flow → Shared → Prop) : List Value → Shared → Prop := fun items s => Wp prog w A (assignInOrder (names.reverse.map fun n => bindName env n) items.reverse) (kN Q) s
noncomputable abbrev kSw (prog : Program) (w : World) (A : Around) (env : Env) (names : List Str) (Q : Flow → Shared → Prop) : Value → Shared → Prop := fun v s => Wp prog w A (unpackItems v names.length none) (kSw2 prog w A env names Q) s
theorem sAssignSw {elts : List Expr} {k : Nat} {tpos pos : Pos} {value : Expr} {names : List Str} {Q : Flow → Shared → Prop}
    (h : Wp prog w A (eval value env) (kSw prog w A env names Q) s)
    (hw : swappedStores [.Tuple elts k tpos] value env = pure (some names)) (hs : swapsWithSole [.Tuple elts k tpos] value pos.line env = pure false := by rfl) : Wp prog w A (exec (.Assign [.Tuple elts k tpos] value pos) env) Q s := ⟨Assign_Tuple_swapped h.three hs hw⟩

/-! ints compared -/
theorem iLe {a b : Int} {t u : Tok} {Q : Value → Shared → Prop} (h : Q (.bool (decide (a ≤ b))) s) : Wp prog w A (compareOp .LtE (.int a t) (.int b u)) Q s := ⟨PyProof.Rows.le_int h⟩
theorem iGe {a b : Int} {t u : Tok} {Q : Value → Shared → Prop} (h : Q (.bool (decide (b ≤ a))) s) : Wp prog w A (compareOp .GtE (.int a t) (.int b u)) Q s := ⟨PyProof.Rows.ge_int h⟩
theorem iNe {a b : Int} {t u : Tok} {Q : Value → Shared → Prop} (h : Q (.bool (a != b)) s) : Wp prog w A (compareOp .NotEq (.int a t) (.int b u)) Q s := ⟨PyProof.Rows.ne_int h⟩

/-! ranges -/
theorem range1 {n : Int} {t : Tok} {Q : Value → Shared → Prop} (B : Bd h₀ g₀ L cs m cm own g hp)
    (h : ∀ h' tk' r t₁ t₂ t₃, IsRange h' r 0 n 1 t₁ t₂ t₃ → Bd h₀ g₀ L cs m cm own g h' → Q (.ref r) ⟨h', gs, dr, tk', os⟩) : Wp prog w A (call (.type "range") [.int n t]) Q ⟨hp, gs, dr, tk, os⟩ :=
  ⟨call_range_1 (h _ _ _ _ _ _ (IsRange.new ..) (B.keep fun _ _ e => Heap.get?_push_of_some _ e))⟩
theorem range2 {a b : Int} {t u : Tok} {Q : Value → Shared → Prop} (B : Bd h₀ g₀ L cs m cm own g hp)
    (h : ∀ h' tk' r t₁ t₂ t₃, IsRange h' r a b 1 t₁ t₂ t₃ → Bd h₀ g₀ L cs m cm own g h' → Q (.ref r) ⟨h', gs, dr, tk', os⟩) : Wp prog w A (call (.type "range") [.int a t, .int b u]) Q ⟨hp, gs, dr, tk, os⟩ :=
  ⟨call_range_2 (h _ _ _ _ _ _ (IsRange.new ..) (B.keep fun _ _ e => Heap.get?_push_of_some _ e))⟩
theorem range3 {a b c : Int} {t u v : Tok} {Q : Value → Shared → Prop} (B : Bd h₀ g₀ L cs m cm own g hp) (hc : c ≠ 0) (hc2 : c.natAbs < 1073741824)
    (h : ∀ h' tk' r t₁ t₂ t₃, IsRange h' r a b c t₁ t₂ t₃ → Bd h₀ g₀ L cs m cm own g h' → Q (.ref r) ⟨h', gs, dr, tk', os⟩) : Wp prog w A (call (.type "range") [.int a t, .int b u, .int c v]) Q ⟨hp, gs, dr, tk, os⟩ :=
  ⟨call_range_3 hc (h _ _ _ _ _ _ (IsRange.new ..) (B.keep fun _ _ e => Heap.get?_push_of_some _ e)) (.inl (PyProof.noPylong_small hc2))⟩
noncomputable abbrev rangeItObj (a c : Int) (n : Nat) : Obj := { cls := .type "range_iterator", data := .fields #[rawInt a, rawInt (n : Int), rawInt c] }
theorem rangeIt_zero {a c : Int} {n : Nat} : rangeIt a c n 0 (rangeItObj a c n) := by simp [rangeIt, rangeItObj]
theorem iterR {r : Addr} {a b c : Int} {t₁ t₂ t₃ : Tok} {n : Nat} {Q : Value → Shared → Prop} (B : Bd h₀ g₀ L cs m cm own g hp) (hr : IsRange hp r a b c t₁ t₂ t₃) (hsm : Builtin.Range.small a b c = true) (hsz : Builtin.Range.rangeSize a b c = (n : Int))
    (h : ∀ h' I, Bd h₀ g₀ L cs m cm ((I, rangeIt a c n 0) :: own) g h' → Q (.ref I) ⟨h', gs, dr, tk, os⟩) : Wp prog w A (pyIter (.ref r)) Q ⟨hp, gs, dr, tk, os⟩ := by
  refine ⟨wpAny_pyIter_range hr hsm ?_⟩
  rw [hsz]
  exact h _ _ (B.newO (o := rangeItObj a c n) (q := rangeIt a c n 0) rangeIt_zero)
theorem Ready.range {h₁ g : Heap} {r : Addr} {a b c : Int} {t₁ t₂ t₃ : Tok} {n : Nat} (hr : IsRange h₁ r a b c t₁ t₂ t₃) (hsm : Builtin.Range.small a b c = true) (hsz : Builtin.Range.rangeSize a b c = (n : Int)) :
    Ready prog w A h₁ g (.ref r) (rangeItObj a c n) :=
  ⟨rfl, fun _ _ _ _ _ _ hq => wpAny_pyIter_range hr hsm (by rw [hsz]; exact hq), fun _ _ _ _ e hq => wpAny_pyIter_rangeiter (x := a) (left := (n : Int)) (step := c) e hq⟩
theorem small_of {a b c : Int} (ha : -1000000 ≤ a ∧ a ≤ 1000000) (hb : -1000000 ≤ b ∧ b ≤ 1000000) (hc : c = 1 ∨ c = -1) : Builtin.Range.small a b c = true := by
  have key : ∀ x : Int, -100000000 ≤ x → x ≤ 100000000 → Builtin.Range.rangeFitsLong x = true := by
    intro x h1 h2
    unfold Builtin.Range.rangeFitsLong
    simp; lia  
  unfold Builtin.Range.small Builtin.Range.rangeSize
  rcases hc with rfl | rfl
  · simp only [Bool.and_eq_true]
    refine ⟨⟨⟨⟨key a (by lia  ) (by lia  ), key b (by lia  ) (by lia  )⟩, by decide⟩, ?_⟩, ?_⟩
    · simp; split <;> exact key _ (by lia  ) (by lia  )
    · simp; right; exact key _ (by lia  ) (by lia  )
  · simp only [Bool.and_eq_true]
    refine ⟨⟨⟨⟨key a (by lia  ) (by lia  ), key b (by lia  ) (by lia  )⟩, by decide⟩, ?_⟩, ?_⟩
    · simp; split <;> exact key _ (by lia  ) (by lia  )
    · simp; right; exact key _ (by lia  ) (by lia  )

/-! lists of ints compared -/
theorem eqInts {a b : Addr} {vs us : List Value} {ns ms : List Int} {na nb : Nat} {Q : Value → Shared → Prop} (ha : hp.get? a = some (lst vs na)) (hb : hp.get? b = some (lst us nb)) (hi : All2 IsInt vs ns) (hj : All2 IsInt us ms) (hu : A.units + 64 < cLine)
    (h : Q (.bool (decide (ns = ms))) ⟨hp, gs, dr, tk, os⟩) : Wp prog w A (compareOp .Eq (.ref a) (.ref b)) Q ⟨hp, gs, dr, tk, os⟩ := ⟨eq_intsK (s := ⟨hp, gs, dr, tk, os⟩) (isList_of ha) (intsAre_of hi) (isList_of hb) (intsAre_of hj) hu h⟩

/-! methods of a list -/
/-- o.name(x) as a statement -/
theorem sMeth1 {o elt : Expr} {apos pos epos : Pos} {name : Str} {id : String} {Q : Flow → Shared → Prop} (slot : Slot "list" name id) (hty : typeOf (.builtin id) = pure (.type "method_descriptor")) (pa : PlainAttrs "list")
    (h : Wp prog w A (eval o env) (kMeth prog w A env id elt Q) s)
    (hi : interactive env = false)
    (hbase : attributeBase o name env (eval o env) = eval o env := by rfl)
    (hfew : ((backTo pos (starEach [elt] env)).all (fun x => !x.1) && (backToKw pos (keywordEach [] env)).all (fun x => x.1.isSome)
      && decide (([elt] : List Expr).length + ([] : List Keyword).length + (if ([] : List Keyword).isEmpty then 0 else 1) < 30)) = true := by rfl)
    (hline : (apos.endLine == pos.line) = true := by rfl) (htrees : backTo pos (starEach [elt] env) = [(false, eval elt env)] := by rfl) :
    Wp prog w A (exec (.Expr (.Call (.Attribute o name apos) [elt] [] pos) epos) env) Q s := by
  refine ⟨wpAny_Expr_any (wpAny_Call_method hbase hfew hline pa slot hty (wpAny_mono h.run (fun ov s₁ h₁ => ?_) fun _ _ e => e)) hi (by rfl)⟩
  obtain ⟨D, vs, n, rfl, e, k⟩ := h₁
  refine ⟨⟨_, e, rfl⟩, fun a ha => ⟨_, by cases ha; exact e, rfl⟩, ?_⟩
  rw [htrees]
  exact Calls.callWith_builtin rfl (Calls.evalArgs_plain (Calls.spliced_cons (wpAny_mono k.run (fun y s₂ q => Calls.spliced_nil q.run) fun _ _ e => e)))

theorem extend_own {pre post : List (Addr × (Obj → Prop))} {D b : Addr} {vs ws : List Value} {nb : Nat} {Q : Value → Shared → Prop} (B : Bd h₀ g₀ L cs m cm (pre ++ (D, isLst vs) :: post) g hp) (hb : g.get? b = some (lst ws nb)) (hsz : vs.length + ws.length ≤ sizeLine)
    (h : ∀ h' tk', Bd h₀ g₀ L cs m cm (pre ++ (D, isLst (vs ++ ws)) :: post) g h' → Q .none ⟨h', gs, dr, tk', os⟩) : Wp prog w A (call (.builtin "list.extend") [.ref D, .ref b]) Q ⟨hp, gs, dr, tk, os⟩ := by
  obtain ⟨o, e, n, rfl⟩ := B.at (List.mem_append_right _ (.head _))
  have hsz' : vs.toArray.size + ws.toArray.size ≤ sizeLine := by simpa using hsz
  refine ⟨call_meets PySem.F.slot_list_extend ⟨_, e, rfl⟩ PySem.F.entry_list_extend (PySem.F.args_list_extend_2 _ _) (AutoSeq1.list_extend_list_list_0 D vs.toArray n b ws.toArray nb (extend_door hsz') (Nat.le_trans (Nat.le_add_right _ _) hsz')) ⟨e, B.le _ _ hb, ?_⟩⟩
  have e' : vs.toArray ++ ws.toArray = (vs ++ ws).toArray := by simp
  have ho' : (hp.update D (Obj.mapSeq fun x => x ++ ws.toArray)).get? D = some { cls := .type "list", data := .seq (vs ++ ws).toArray (if (vs.toArray ++ ws.toArray).size == vs.toArray.size then n else n + 1) } := by
    rw [Heap.get?_update_self _ e (by rw [mapSeq_app]; rfl), mapSeq_app, e']
  exact h _ _ (B.setO ho' ⟨_, rfl⟩ (Heap.SameBut.update ..).extBut (Nat.le_of_eq (Heap.size_after_update ..).symm))
end
end Mine
end
section
open PySem PySem.W PyProof.Rows
set_option maxRecDepth 100000
namespace Mine
section
variable {h₀ g₀ g h g' h' : Heap} {L : Addr} {cs : List (Str × Addr)} {m cm : Str → Option Value} {own : List (Addr × (Obj → Prop))}
/-- an object that stands, but is nobody's, becomes one of the body's own -/
theorem Bd.addAny {a : Addr} {o : Obj} {q : Obj → Prop} (B : Bd h₀ g₀ L cs m cm own g h) (ha : h.get? a = some o) (hq : q o) (hg : g.get? a = none) (hz : h₀.objs.size ≤ a) (hL : a ≠ L) (hc : ∀ n c, cs.lookup n = some c → a ≠ c) (ho : ∀ p ∈ own, a ≠ p.1) :
    Bd h₀ g₀ L cs m cm ((a, q) :: own) g h :=
  { B with
    has := fun p hp => by
      rcases List.mem_cons.mp hp with rfl | hp
      · exact ⟨⟨o, ha, hq⟩, hg, hz, hL, hc⟩
      · exact B.has p hp
    nd := List.pairwise_cons.mpr ⟨ho, B.nd⟩ }
/-- a new object becomes one of the body's own -/
theorem Bd.addNew {a : Addr} {o : Obj} {q : Obj → Prop} (B : Bd h₀ g₀ L cs m cm own g h) (x : Stp g h g' h') (ha : h'.get? a = some o) (hq : q o) (hg : g'.get? a = none) (hz : h.objs.size ≤ a) : Bd h₀ g₀ L cs m cm ((a, q) :: own) g' h' := by
  refine (B.pure x).addAny ha hq hg (Nat.le_trans B.szh hz) (fun e => ?_) (fun n c e q => ?_) fun p hp e => ?_
  · exact absurd B.ns.lt (by rw [← e]; exact Nat.not_lt.mpr hz)
  · exact absurd (B.szC n c e) (by rw [← q]; exact Nat.not_lt.mpr hz)
  · obtain ⟨⟨o1, e1, _⟩, _⟩ := B.has p hp
    exact absurd (Heap.lt_size e1) (by rw [← e]; exact Nat.not_lt.mpr hz)
/-- two own objects are changed, all else is kept -/
theorem Bd.two {a b : Addr} {p q p' q' : Obj → Prop} {oa ob : Obj} (B : Bd h₀ g₀ L cs m cm ((a, p) :: (b, q) :: own) g h) (k : ∀ x o, x ≠ a → x ≠ b → h.get? x = some o → h'.get? x = some o) (hz : h.objs.size ≤ h'.objs.size)
    (ha : h'.get? a = some oa) (hpa : p' oa) (hb : h'.get? b = some ob) (hqb : q' ob) : Bd h₀ g₀ L cs m cm ((a, p') :: (b, q') :: own) g h' := by
  obtain ⟨⟨o1, e1, _⟩, a1, a2, a3, a4⟩ := B.has (a, p) (.head _)
  obtain ⟨⟨o2, e2, _⟩, b1, b2, b3, b4⟩ := B.has (b, q) (.tail _ (.head _))
  have nd := List.pairwise_cons.mp B.nd
  have nd2 := List.pairwise_cons.mp nd.2
  obtain ⟨oL, esL, epL, hL, rL⟩ := B.ns
  refine ⟨⟨oL, esL, epL, k _ _ (Ne.symm a3) (Ne.symm b3) hL, rL⟩, fun n c e => ?_, B.apart, B.above, fun x o e => ?_, B.sz, Nat.le_trans B.szh hz, B.ge, fun x o e => ?_, B.off, B.offL, B.offC, fun n c e => Nat.lt_of_lt_of_le (B.szC n c e) hz, fun r hr => ?_, ?_⟩
  · obtain ⟨oc, ec, dc⟩ := B.cell n c e
    exact ⟨oc, k _ _ (Ne.symm (a4 n c e)) (Ne.symm (b4 n c e)) ec, dc⟩
  · exact k _ _ (Nat.ne_of_lt (Nat.lt_of_lt_of_le (Heap.lt_size e) a2)) (Nat.ne_of_lt (Nat.lt_of_lt_of_le (Heap.lt_size e) b2)) (B.kp _ _ e)
  · exact k _ _ (fun z => by rw [z, a1] at e; cases e) (fun z => by rw [z, b1] at e; cases e) (B.le _ _ e)
  · rcases List.mem_cons.mp hr with rfl | hr
    · exact ⟨⟨oa, ha, hpa⟩, a1, a2, a3, a4⟩
    rcases List.mem_cons.mp hr with rfl | hr
    · exact ⟨⟨ob, hb, hqb⟩, b1, b2, b3, b4⟩
    obtain ⟨⟨o, e, z⟩, r⟩ := B.has r (.tail _ (.tail _ hr))
    exact ⟨⟨o, k _ _ (Ne.symm (nd.1 _ (.tail _ hr))) (Ne.symm (nd2.1 _ hr)) e, z⟩, r⟩
  · exact List.pairwise_cons.mpr ⟨fun r hr => by
      rcases List.mem_cons.mp hr with rfl | hr
      · exact nd.1 (b, q) (.head _)
      · exact nd.1 r (.tail _ hr), List.pairwise_cons.mpr ⟨nd2.1, nd2.2⟩⟩
end
end Mine
end
section
open PySem PySem.W PyProof.Rows
set_option maxRecDepth 100000
namespace Mine
noncomputable def isEnum (it : Addr) (i : Nat) (o : Obj) : Prop := ∃ old, o = { cls := .type "enumerate", data := .fields #[.none, .bool false, .ref it, rawInt (i : Int), .none, old] }
section
variable {prog : Program} {w : World} {A : Around} {hp : Heap} {gs : Array GenState} {dr : Drawn} {tk : Nat} {os : OsState} {env : Env} {names : List (Str × NameKind)} {h₀ g₀ g : Heap} {L : Addr} {cs cs' : List (Str × Addr)} {m cm : Str → Option Value} {own : List (Addr × (Obj → Prop))}
theorem enumL {l : Addr} {vs : List Value} {n : Nat} {Q : Value → Shared → Prop} (B : Bd h₀ g₀ L cs m cm own g hp) (hl : hp.get? l = some (lst vs n))
    (h : ∀ h' e it, LE hp h' → Bd h₀ g₀ L cs m cm ((e, isEnum it 0) :: (it, listIt l 0) :: own) g h' → Q (.ref e) ⟨h', gs, dr, tk, os⟩) : Wp prog w A (call (.type "enumerate") [.ref l]) Q ⟨hp, gs, dr, tk, os⟩ := by
  refine ⟨call_enumerate_1 (s := ⟨hp, gs, dr, tk, os⟩) hl fun h' he hit hz hk => ?_⟩
  obtain ⟨o, ho, hc, hd⟩ := hit
  have none_ge : ∀ b, hp.objs.size ≤ b → g.get? b = none := fun b hb => by
    cases e : g.get? b with
    | none => rfl
    | some o => exact absurd (Heap.lt_size (B.le _ _ e)) (Nat.not_lt.mpr hb)
  have S : Stp g hp g h' := ⟨LE.rfl', B.le.tr hk, hk, by rw [show h'.objs.size = hp.objs.size + 2 from hz]; exact Nat.le_add_right _ _, fun _ _ e => e⟩
  have B1 := B.addNew (q := listIt l 0) S ho ⟨hc, hd⟩ (none_ge _ (Nat.le_refl _)) (Nat.le_refl _)
  refine h h' _ _ hk (B1.addAny (q := isEnum hp.objs.size 0) he ⟨_, rfl⟩ (none_ge _ (Nat.le_succ _)) (Nat.le_succ_of_le B.szh) (fun e => ?_) (fun n c e q => ?_) fun p hp' e => ?_)
  · exact absurd B.ns.lt (by rw [← e]; exact Nat.not_lt.mpr (Nat.le_succ _))
  · exact absurd (B.szC n c e) (by rw [← q]; exact Nat.not_lt.mpr (Nat.le_succ _))
  · rcases List.mem_cons.mp hp' with rfl | hp'
    · exact absurd e (Nat.succ_ne_self _)
    · obtain ⟨⟨o1, e1, _⟩, _⟩ := B.has p hp'
      exact absurd (Heap.lt_size e1) (by rw [← e]; exact Nat.not_lt.mpr (Nat.le_succ _))
theorem iterE {e it l : Addr} {i : Nat} {Q : Value → Shared → Prop} (B : Bd h₀ g₀ L cs m cm ((e, isEnum it i) :: (it, listIt l i) :: own) g hp) (h : Q (.ref e) ⟨hp, gs, dr, tk, os⟩) : Wp prog w A (pyIter (.ref e)) Q ⟨hp, gs, dr, tk, os⟩ := by
  obtain ⟨⟨o, ho, old, rfl⟩, _⟩ := B.has (e, isEnum it i) (.head _)
  exact ⟨wpAny_pyIter_enum (s := ⟨hp, gs, dr, tk, os⟩) (it := it) (i := (i : Int)) (old := old) ho h⟩
/-- for i, x in enumerate(list): one item, unpacked into two names -/
theorem enumTurn {xi xv : Str} {p1 p2 pos : Pos} {k : Nat} {e it l : Addr} {i : Nat} {vs : List Value} {n : Nat} {x : Value} {Q : Unit → Shared → Prop} (hh : A.handled = none) (V : Ev env names L cs') (B : Bd h₀ g₀ L cs m cm ((e, isEnum it i) :: (it, listIt l i) :: own) g hp)
    (hl : hp.get? l = some (lst vs n)) (hx : vs[i]? = some x) (hi : names.lookup xi = some .local) (hv : names.lookup xv = some .local)
    (h : ∀ h' tk' t, Bd h₀ g₀ L cs (upd (upd m xi (.int (i : Nat) t)) xv x) cm ((e, isEnum it (i + 1)) :: (it, listIt l (i + 1)) :: own) g h' → Q () ⟨h', gs, dr, tk', os⟩) :
    Wp prog w A (pyNext (.ref e)) (kItem prog w A env (.Tuple [.Name xi p1, .Name xv p2] k pos) (.ref e) Q) ⟨hp, gs, dr, tk, os⟩ := by
  have nd := List.pairwise_cons.mp B.nd
  have hne : e ≠ it := nd.1 (it, listIt l i) (.head _)
  obtain ⟨⟨oe, ho, old, rfl⟩, ge, ze, _⟩ := B.has (e, isEnum it i) (.head _)
  obtain ⟨⟨oi, hoi, hci, hdi⟩, _⟩ := B.has (it, listIt l i) (.tail _ (.head _))
  refine ⟨wpAny_pyNext_enum_item (s := ⟨hp, gs, dr, tk, os⟩) (i := i) (items := vs.toArray) (x := x) (old := old) ho ⟨oi, hoi, hci, hdi⟩ (isList_of hl) (by simpa using hx) hne fun h1 he1 hit1 hT hz1 k1 => ⟨_, rfl, ⟨wpAny_letOwnedTupleGo_enum he1 fun h2 he2 s2 => ?_⟩⟩⟩
  obtain ⟨o1, ho1, hc1, hd1⟩ := hit1
  have hTe : hp.objs.size ≠ e := Nat.ne_of_gt (Heap.lt_size ho)
  have hTi : hp.objs.size ≠ it := Nat.ne_of_gt (Heap.lt_size hoi)
  have B2 : Bd h₀ g₀ L cs m cm ((e, isEnum it (i + 1)) :: (it, listIt l (i + 1)) :: own) g h2 :=
    B.two (fun b o hb1 hb2 q => (s2.2 b hb1).trans (k1 b o hb1 hb2 q)) (by rw [s2.1]; exact Nat.le_trans (Nat.le_succ _) (Nat.le_of_eq hz1.symm)) he2 ⟨x, by push_cast; rfl⟩ ((s2.2 it (Ne.symm hne)).trans ho1) ⟨hc1, hd1⟩
  have hT2 : h2.get? hp.objs.size = some (tup [.int (i : Nat) tk, x] 0) := (s2.2 _ hTe).trans hT
  have hTt : h2.IsTuple hp.objs.size [Value.int (i : Nat) tk, x].toArray := ⟨_, hT2, rfl, 0, rfl⟩
  refine ⟨wpAny_assign_Tuple hh hTt (by rfl) (by rfl) fun h3 k3 => Wp.run ?_⟩
  have B3 := B2.keep (tup_keep k3)
  refine inOrder (t := assign (.Name xi p1) env) (ts := [assign (.Name xv p2) env]) (assignL V B3 hi fun h4 tk4 B4 => ?_)
  exact inOrder (assignL V B4 hv fun h5 tk5 B5 => inOrder_nil (h _ _ _ B5))
theorem enumLast {e it l : Addr} {vs : List Value} {n : Nat} {Q : Option Value → Shared → Prop} (hh : A.handled = none) (B : Bd h₀ g₀ L cs m cm ((e, isEnum it vs.length) :: (it, listIt l vs.length) :: own) g hp) (hl : hp.get? l = some (lst vs n))
    (h : ∀ h' tk', Bd h₀ g₀ L cs m cm own g h' → Q none ⟨h', gs, dr, tk', os⟩) : Wp prog w A (pyNext (.ref e)) Q ⟨hp, gs, dr, tk, os⟩ := by
  obtain ⟨⟨oe, ho, old, rfl⟩, ge, ze, _⟩ := B.has (e, isEnum it vs.length) (.head _)
  obtain ⟨⟨oi, hoi, hci, hdi⟩, _⟩ := B.has (it, listIt l vs.length) (.tail _ (.head _))
  exact ⟨wpAny_pyNext_enum_end (s := ⟨hp, gs, dr, tk, os⟩) (i := vs.length) (items := vs.toArray) (old := old) hh ho ⟨oi, hoi, hci, hdi⟩ (isList_of hl) (by simp) fun h1 k1 => h h1 _ ((B.last (pre := [(e, isEnum it vs.length)]) k1).drop (by simp))⟩
end
end Mine
end
section
open PySem PySem.W PyProof.Rows
set_option maxRecDepth 100000
namespace Mine
section
variable {prog : Program} {w : World} {A : Around} {hp : Heap} {gs : Array GenState} {dr : Drawn} {tk : Nat} {os : OsState} {env : Env} {h₀ g₀ g : Heap} {L : Addr} {cs : List (Str × Addr)} {m cm : Str → Option Value} {pre post own : List (Addr × (Obj → Prop))}
theorem mapSeq_set (vs : List Value) (n j : Nat) (v : Value) : ∃ k, (lst vs n).mapSeq (·.setIfInBounds j v) = lst (vs.set j v) k := by
  refine ⟨if (vs.toArray.setIfInBounds j v).size == vs.toArray.size then n else n + 1, ?_⟩
  simp [Obj.mapSeq]
theorem set_gen {E : Value → Shared → Prop} {s : Shared} {l : Addr} {vs : List Value} {j n : Nat} {t : Tok} {v : Value} {Q : Unit → Shared → Prop} (ho : s.heap.get? l = some (lst vs n)) (hj : j < vs.length) (hz : vs.length ≤ sizeLine)
    (h : Q () { s with heap := s.heap.update l (Obj.mapSeq (·.setIfInBounds j v)) }) : wpAny (model prog w) A (setItem (.ref l) (.int (j : Nat) t) v) Q E s := by
  obtain ⟨q, hq⟩ : ∃ q : Int, q = (j : Int) := ⟨_, rfl⟩
  rw [← hq]
  have hT : s.TypeIs (.ref l) "list" := ⟨_, ho, rfl⟩
  have hfit : q < 2 ^ 63 := by rw [sizeLine_eq] at hz; lia  
  have h0 : 0 ≤ q := by lia  
  unfold setItem
  try with_reducible refine wpAny_holding ?_
  first | refine wpAny_bind (wpAny_pure ?_) | skip
  refine wpAny_bind (wpAny_sequenceKey hT (by decide) ?_)
  refine wpAny_bind (wpAny_callSpecial?_slot (name := Str.ofString "__setitem__") hT slot_list_setitem
    (wpAny_call_entry slot_list_setitem hT entry_list_setitem ?_ (args_list_setitem _ _ _)))
  show wpAny _ _ (Builtin.List.listSubscript? (.int q t) >>= _) _ _ s
  refine wpAny_bind (wpAny_listSubscript_int (fitsIndex_of h0 hfit) ?_)
  clear hfit h0
  subst hq
  have hx' : vs.toArray[j]? = some vs[j] := by simp [hj]
  show wpAny _ _ ((seqItemAt l j >>= fun r => pure (r.map (j, ·))) >>= _) _ _ s
  refine wpAny_bind (wpAny_bind (wpAny_seqItemAt ho rfl (wpAny_pure ?_)))
  rw [hx']
  show wpAny _ _ (setSeqItemAt l j v >>= _) _ _ s
  refine wpAny_bind (wpAny_setSeqItemAt ho rfl ?_)
  first
    | exact wpAny_bind (wpAny_pure (wpAny_pure ⟨.none, rfl, wpAny_pure h⟩))
    | exact wpAny_pure ⟨.none, rfl, wpAny_pure h⟩
/-- l[j] = v for an own list -/
theorem set_own {l : Addr} {vs : List Value} {j : Nat} {t : Tok} {v : Value} {Q : Unit → Shared → Prop} (B : Bd h₀ g₀ L cs m cm (pre ++ (l, isLst vs) :: post) g hp) (hj : j < vs.length) (hz : vs.length ≤ sizeLine)
    (h : ∀ h', Bd h₀ g₀ L cs m cm (pre ++ (l, isLst (vs.set j v)) :: post) g h' → Q () ⟨h', gs, dr, tk, os⟩) : Wp prog w A (setItem (.ref l) (.int (j : Nat) t) v) Q ⟨hp, gs, dr, tk, os⟩ := by
  obtain ⟨o, ho, n, rfl⟩ := B.at (List.mem_append_right _ (.head _))
  obtain ⟨k, ek⟩ := mapSeq_set vs n j v
  have hfin : (hp.update l (Obj.mapSeq (·.setIfInBounds j v))).get? l = some (lst (vs.set j v) k) := by
    rw [Heap.get?_update_self _ ho (by rw [ek]; rfl), ek]
  exact ⟨set_gen (s := ⟨hp, gs, dr, tk, os⟩) ho hj hz (h _ (B.setO hfin ⟨k, rfl⟩ (Heap.SameBut.update ..).extBut (Nat.le_of_eq (Heap.size_after_update ..).symm)))⟩
/-- list(l): a copy of the body's own -/
theorem list_copy {l : Addr} {vs : List Value} {n : Nat} {Q : Value → Shared → Prop} (B : Bd h₀ g₀ L cs m cm own g hp) (hl : hp.get? l = some (lst vs n)) (hz : vs.length ≤ sizeLine)
    (h : ∀ h' c, LE hp h' → Bd h₀ g₀ L cs m cm ((c, isLst vs) :: own) g h' → Q (.ref c) ⟨h', gs, dr, tk, os⟩) : Wp prog w A (call (.type "list") [.ref l]) Q ⟨hp, gs, dr, tk, os⟩ := by
  refine ⟨call_list_seq (s := ⟨hp, gs, dr, tk, os⟩) l (T := "list") (.inl rfl) hl rfl rfl (fun h' c k e => ?_) (by simpa using hz)⟩
  have S : Stp g hp g h' := ⟨LE.rfl', B.le.tr k, k, Nat.le_of_lt (Heap.lt_size e), fun _ _ q => q⟩
  refine h h' _ k (B.addNew S e ⟨c, rfl⟩ ?_ (Nat.le_refl _))
  cases q : g.get? hp.objs.size with
  | none => rfl
  | some o => exact absurd (Heap.lt_size (B.le _ _ q)) (Nat.lt_irrefl _)
end
end Mine
end
section
/-! the law in plain lists: the definitions that the walk and the plain law share -/
namespace Mine
noncomputable def nt (x : Int) : Bool := decide (256 ≤ x)
noncomputable def placesN (f : List Int) : List Nat := (List.range f.length).filter fun k => nt (f.getD k 0)
noncomputable def sidesFor (S : List (List Int)) (x : Int) : List (List Int) := if x.fmod 2 = 0 then [S.getD 0 [], S.getD 2 []] else [S.getD 1 [], S.getD 3 []]
noncomputable def subst (f : List Int) (k : Nat) (s : List Int) : List Int := f.take k ++ s ++ f.drop (k + 1)
noncomputable def expand (S : List (List Int)) (p : List Nat → List Nat) (f : List Int) : List (List Int) := (p (placesN f)).flatMap fun k => (sidesFor S (f.getD k 0)).map fun s => subst f k s
noncomputable def growOne (S : List (List Int)) (p : List Nat → List Nat) (left : Nat) (f : List Int) : List (List Int) := if placesN f = [] then [] else if (placesN f).length ≤ left then expand S p f else []
noncomputable def ended (f : List Int) : Bool := decide (placesN f = [])
/-- after i rounds: the sentences, the forms -/
noncomputable def lv (S : List (List Int)) (p : List Nat → List Nat) (steps : Nat) : Nat → List (List Int) × List (List Int)
  | 0 => ([], [[256]])
  | i + 1 => ((lv S p steps i).1 ++ (lv S p steps i).2.filter ended, (lv S p steps i).2.flatMap (growOne S p (steps - i)))
noncomputable def derived (S : List (List Int)) (p : List Nat → List Nat) (steps : Nat) : List (List Int) := (lv S p steps (steps + 1)).1

theorem places_lt {f : List Int} {k : Nat} (h : k ∈ placesN f) : k < f.length := by
  unfold placesN at h
  simpa using (List.mem_filter.mp h).1
theorem flatMap_le {α β : Type} (f : α → List β) (c : Nat) : ∀ l : List α, (∀ x ∈ l, (f x).length ≤ c) → (l.flatMap f).length ≤ c * l.length
  | [], _ => by simp
  | x :: l, h => by
    rw [List.flatMap_cons, List.length_append, List.length_cons, Nat.mul_succ]
    have := flatMap_le f c l fun y hy => h y (.tail _ hy)
    have := h x (.head _)
    lia  
theorem sidesFor_len (S : List (List Int)) (x : Int) : (sidesFor S x).length = 2 := by unfold sidesFor; split <;> rfl
theorem sidesFor_mem {S : List (List Int)} {x : Int} {s : List Int} (h : s ∈ sidesFor S x) (h3 : ∀ s ∈ S, s.length ≤ 3) : s.length ≤ 3 := by
  have g : ∀ i, (S.getD i []).length ≤ 3 := fun i => by
    rw [List.getD_eq_getElem?_getD]
    cases e : S[i]? with
    | none => simp
    | some y => exact h3 y (List.mem_of_getElem? e)
  unfold sidesFor at h
  split at h <;> (rcases List.mem_cons.mp h with rfl | h; · exact g _) <;> rcases List.mem_singleton.mp h with rfl <;> exact g _
theorem subst_len {f s : List Int} {k : Nat} : (subst f k s).length ≤ f.length + s.length := by
  unfold subst; simp; lia  
theorem expand_len {S : List (List Int)} {p : List Nat → List Nat} (hp : ∀ l, (p l).Sublist l) (f : List Int) : (expand S p f).length ≤ 2 * (placesN f).length := by
  unfold expand
  have := flatMap_le (fun k => (sidesFor S (f.getD k 0)).map fun s => subst f k s) 2 (p (placesN f)) fun k _ => by rw [List.length_map, sidesFor_len]; exact Nat.le_refl _
  have := (hp (placesN f)).length_le
  lia  
theorem growOne_len {S : List (List Int)} {p : List Nat → List Nat} (hp : ∀ l, (p l).Sublist l) {left : Nat} (f : List Int) : (growOne S p left f).length ≤ 2 * left := by
  unfold growOne
  split
  · simp
  · split
    · have := expand_len (S := S) hp f; lia  
    · simp
theorem expand_mem {S : List (List Int)} {p : List Nat → List Nat} (h3 : ∀ s ∈ S, s.length ≤ 3) {f y : List Int} (h : y ∈ expand S p f) : y.length ≤ f.length + 3 := by
  unfold expand at h
  obtain ⟨k, _, h⟩ := List.mem_flatMap.mp h
  obtain ⟨s, hs, rfl⟩ := List.mem_map.mp h
  have := sidesFor_mem hs h3
  have := subst_len (f := f) (s := s) (k := k)
  lia  
theorem growOne_mem {S : List (List Int)} {p : List Nat → List Nat} (h3 : ∀ s ∈ S, s.length ≤ 3) {left : Nat} {f y : List Int} (h : y ∈ growOne S p left f) : y.length ≤ f.length + 3 := by
  unfold growOne at h
  split at h
  · cases h
  · split at h
    · exact expand_mem h3 h
    · cases h
/-- how much there is after i rounds -/
theorem lv_bound {S : List (List Int)} {p : List Nat → List Nat} (hp : ∀ l, (p l).Sublist l) (h3 : ∀ s ∈ S, s.length ≤ 3) {steps : Nat} (h5 : steps ≤ 5) : ∀ i, (lv S p steps i).1.length ≤ 10 ^ i ∧ (lv S p steps i).2.length ≤ 10 ^ i ∧ ∀ f ∈ (lv S p steps i).2, f.length ≤ 1 + 3 * i
  | 0 => by simp [lv]
  | i + 1 => by
    obtain ⟨h1, h2, h4⟩ := lv_bound hp h3 h5 i
    have e : 10 ^ (i + 1) = 10 ^ i * 10 := Nat.pow_succ ..
    refine ⟨?_, ?_, ?_⟩
    · show ((lv S p steps i).1 ++ (lv S p steps i).2.filter ended).length ≤ _
      rw [List.length_append]
      have := List.length_filter_le ended (lv S p steps i).2
      lia  
    · show ((lv S p steps i).2.flatMap (growOne S p (steps - i))).length ≤ _
      have := flatMap_le (growOne S p (steps - i)) 10 (lv S p steps i).2 fun f _ => by have := growOne_len (S := S) hp (left := steps - i) f; lia  
      lia  
    · intro f hf
      obtain ⟨f', hf', hm⟩ := List.mem_flatMap.mp (show f ∈ List.flatMap _ _ from hf)
      have := growOne_mem h3 hm
      have := h4 f' hf'
      lia  
end Mine
end
section
/-! the trees in plain lists -/
namespace Mine
noncomputable abbrev Tr := List Int × Nat × Nat
noncomputable def joinTr (t u : Tr) : Tr := (t.1 ++ u.1, t.2.1 + 1 + u.2.1, t.2.2 * u.2.2 * (1 + u.2.1))
noncomputable def nodeStep (S : List (List Int)) (rec : List Int → Nat → List Tr) (r : Nat) (sign : Int) (t : Tr) : List Tr :=
  (sidesFor S sign).flatMap fun side => (rec side (r - 1 - t.2.1)).map (joinTr t)
noncomputable def leafStep (sign : Int) (t : Tr) : Tr := (t.1 ++ [sign], t.2.1, t.2.2)
noncomputable def signStep (S : List (List Int)) (rec : List Int → Nat → List Tr) (r : Nat) (found : List Tr) (sign : Int) : List Tr := if sign < 256 then found.map (leafStep sign) else found.flatMap (nodeStep S rec r sign)
/-- fuel, row, room + 1 -/
noncomputable def treesR (S : List (List Int)) : Nat → List Int → Nat → List Tr
  | 0, _, _ => []
  | n + 1, row, r => if r = 0 then [] else row.foldl (signStep S (treesR S n) r) [([], 0, 1)]

noncomputable def wt (room : Nat) (l : List Tr) : Nat := (l.map fun t => 2 ^ (room - t.2.1)).sum
theorem wt_nil (room : Nat) : wt room [] = 0 := rfl
theorem wt_cons (room : Nat) (t : Tr) (l : List Tr) : wt room (t :: l) = 2 ^ (room - t.2.1) + wt room l := by simp [wt]
theorem wt_app (room : Nat) (l l' : List Tr) : wt room (l ++ l') = wt room l + wt room l' := by simp [wt]
theorem wt_len (room : Nat) : ∀ l : List Tr, l.length ≤ wt room l
  | [] => Nat.le_refl _
  | t :: l => by
    have := wt_len room l
    have : 0 < 2 ^ (room - t.2.1) := Nat.pow_pos (by decide)
    rw [wt_cons, List.length_cons]; lia  
theorem wt_flat {room : Nat} {f : Tr → List Tr} : ∀ l : List Tr, (∀ t ∈ l, wt room (f t) ≤ 2 ^ (room - t.2.1)) → wt room (l.flatMap f) ≤ wt room l
  | [], _ => Nat.le_refl _
  | t :: l, h => by
    have := wt_flat l fun u hu => h u (.tail _ hu)
    have := h t (.head _)
    rw [List.flatMap_cons, wt_app, wt_cons]; lia  

structure TrOk (r j : Nat) (found : List Tr) : Prop where
  each : ∀ t ∈ found, t.2.1 ≤ r - 1 ∧ t.1.length ≤ j + 3 * t.2.1 ∧ t.2.2 ≤ 6 ^ t.2.1
  kraft : wt (r - 1) found ≤ 2 ^ (r - 1)
theorem TrOk.len {r j : Nat} {found : List Tr} (h : TrOk r j found) : found.length ≤ 2 ^ (r - 1) := Nat.le_trans (wt_len _ _) h.kraft
theorem TrOk.small {r j : Nat} {found : List Tr} (h : TrOk r j found) (h6 : r ≤ 6) : found.length ≤ 32 := Nat.le_trans h.len (by
  have : 2 ^ (r - 1) ≤ 2 ^ 5 := Nat.pow_le_pow_right (by decide) (by lia  )
  lia  )

noncomputable def RecOk (rec : List Int → Nat → List Tr) (r : Nat) : Prop := ∀ side r', side.length ≤ 3 → r' < r → (r' = 0 → rec side r' = []) ∧ (r' ≠ 0 → TrOk r' side.length (rec side r'))

theorem signStep_ok {S : List (List Int)} {rec : List Int → Nat → List Tr} {r j : Nat} {found : List Tr} {sign : Int} (h3 : ∀ s ∈ S, s.length ≤ 3) (h6 : r ≤ 6) (hr : r ≠ 0) (hrec : RecOk rec r) (h : TrOk r j found) : TrOk r (j + 1) (signStep S rec r found sign) := by
  unfold signStep
  split
  · refine ⟨fun t ht => ?_, ?_⟩
    · obtain ⟨u, hu, rfl⟩ := List.mem_map.mp ht
      obtain ⟨a, b, c⟩ := h.each u hu
      refine ⟨a, ?_, c⟩
      show (u.1 ++ [sign]).length ≤ _ + 3 * u.2.1
      rw [List.length_append, List.length_singleton]; lia  
    · have : wt (r - 1) (found.map (leafStep sign)) = wt (r - 1) found := by simp [wt, leafStep, Function.comp_def]
      rw [this]; exact h.kraft
  · refine ⟨fun t ht => ?_, Nat.le_trans (wt_flat _ fun t ht => ?_) h.kraft⟩
    · obtain ⟨u, hu, ht⟩ := List.mem_flatMap.mp ht
      obtain ⟨a, b, c⟩ := h.each u hu
      obtain ⟨side, hs, ht⟩ := List.mem_flatMap.mp ht
      obtain ⟨v, hv, rfl⟩ := List.mem_map.mp ht
      have hs3 := sidesFor_mem hs h3
      obtain ⟨k0, k1⟩ := hrec side (r - 1 - u.2.1) hs3 (by lia  )
      by_cases e : r - 1 - u.2.1 = 0
      · rw [k0 e] at hv; cases hv
      obtain ⟨x, y, z⟩ := (k1 e).each v hv
      have zz : v.2.1 + 1 ≤ 6 := by lia  
      refine ⟨?_, ?_, ?_⟩
      · show u.2.1 + 1 + v.2.1 ≤ _; lia  
      · show (u.1 ++ v.1).length ≤ _ + 3 * (u.2.1 + 1 + v.2.1)
        rw [List.length_append]; lia  
      · show u.2.2 * v.2.2 * (1 + v.2.1) ≤ 6 ^ (u.2.1 + 1 + v.2.1)
        have e6 : 6 ^ (u.2.1 + 1 + v.2.1) = 6 ^ u.2.1 * 6 ^ v.2.1 * 6 := by rw [Nat.pow_add, Nat.pow_add, Nat.pow_one]; rw [Nat.mul_assoc, Nat.mul_comm 6, ← Nat.mul_assoc]
        rw [e6]
        exact Nat.mul_le_mul (Nat.mul_le_mul c z) (by lia  )
    · by_cases e0 : r - 1 - t.2.1 = 0
      · have : nodeStep S rec r sign t = [] := by
          unfold nodeStep
          rw [List.flatMap_eq_nil_iff]
          intro side hs
          rw [e0, (hrec side 0 (sidesFor_mem hs h3) (by lia  )).1 rfl]; rfl
        rw [this]; exact Nat.zero_le _
      have two : ∀ l : List (List Int), (∀ s ∈ l, s.length ≤ 3) → wt (r - 1) (l.flatMap fun side => (rec side (r - 1 - t.2.1)).map (joinTr t)) ≤ l.length * 2 ^ (r - 1 - t.2.1 - 1) := by
        intro l
        induction l with
        | nil => intro _; simp [wt]
        | cons s l ih =>
          intro hl
          have i1 := ih fun s hs => hl s (.tail _ hs)
          obtain ⟨k0, k1⟩ := hrec s (r - 1 - t.2.1) (hl s (.head _)) (by lia  )
          have one : wt (r - 1) ((rec s (r - 1 - t.2.1)).map (joinTr t)) ≤ 2 ^ (r - 1 - t.2.1 - 1) := by
            by_cases e : r - 1 - t.2.1 = 0
            · rw [k0 e]; exact Nat.zero_le _
            · refine Nat.le_trans (Nat.le_of_eq ?_) (k1 e).kraft
              simp only [wt, List.map_map]
              congr 1
              refine List.map_congr_left fun v hv => ?_
              show 2 ^ (r - 1 - (t.2.1 + 1 + v.2.1)) = 2 ^ (r - 1 - t.2.1 - 1 - v.2.1)
              congr 1; lia  
          rw [List.flatMap_cons, wt_app, List.length_cons, Nat.add_mul, Nat.one_mul]; lia  
      have := two (sidesFor S sign) fun s hs => sidesFor_mem hs h3
      rw [sidesFor_len] at this
      refine Nat.le_trans this ?_
      have e2 : 2 ^ (r - 1 - t.2.1) = 2 ^ (r - 1 - t.2.1 - 1) * 2 := by rw [← Nat.pow_succ]; congr 1; lia  
      rw [e2, Nat.mul_comm]; exact Nat.le_refl _
theorem fold_ok {S : List (List Int)} {rec : List Int → Nat → List Tr} {r : Nat} (h3 : ∀ s ∈ S, s.length ≤ 3) (h6 : r ≤ 6) (hr : r ≠ 0) (hrec : RecOk rec r) : ∀ (row : List Int) (j : Nat) (found : List Tr), TrOk r j found → TrOk r (j + row.length) (row.foldl (signStep S rec r) found)
  | [], j, found, h => h
  | c :: row, j, found, h => by
    have := fold_ok h3 h6 hr hrec row (j + 1) _ (signStep_ok h3 h6 hr hrec h (sign := c))
    rw [List.length_cons, show j + (row.length + 1) = j + 1 + row.length by lia  ]
    exact this
theorem start_ok {r : Nat} : TrOk r 0 [([], 0, 1)] := ⟨fun t ht => by rw [List.mem_singleton.mp ht]; simp, by simp [wt]⟩
theorem trees_ok {S : List (List Int)} (h3 : ∀ s ∈ S, s.length ≤ 3) : ∀ (n : Nat) (row : List Int) (r : Nat), r ≤ n → r ≤ 6 → (r = 0 → treesR S n row r = []) ∧ (r ≠ 0 → TrOk r row.length (treesR S n row r))
  | 0, row, r, hn, h6 => ⟨fun _ => rfl, fun h => absurd (Nat.le_zero.mp hn) h⟩
  | n + 1, row, r, hn, h6 => by
    refine ⟨fun e => by subst e; rfl, fun e => ?_⟩
    have hrec : RecOk (treesR S n) r := fun side r' _ hr' => trees_ok h3 n side r' (by lia  ) (by lia  )
    show TrOk r row.length (if r = 0 then [] else _)
    rw [if_neg e]
    have := fold_ok h3 h6 e hrec row 0 _ start_ok
    rwa [Nat.zero_add] at this
end Mine
end
section
/-! what _count_diff_all_purpose computes, in plain lists: none stands for NULL -/
namespace Mine
noncomputable abbrev OL := List (Option (List Int))
noncomputable def nul (x : List Int) (S : OL) : OL := S.map fun o => if o = some x then none else o
noncomputable def cntO (x : List Int) (S : OL) : Nat := (S.filter fun o => decide (o = some x)).length
noncomputable abbrev Dif := Nat × Nat × List Int
/-- one turn of the first loop -/
noncomputable def cdOne (st : OL × OL × List Dif) (o : Option (List Int)) : OL × OL × List Dif :=
  match o with
  | none => st
  | some x => (nul x st.1, nul x st.2.1, if cntO x st.1 = cntO x st.2.1 then st.2.2 else st.2.2 ++ [(cntO x st.1, cntO x st.2.1, x)])
/-- the first loop's turns: the item is read when its turn comes -/
noncomputable def cdS : Nat → Nat → OL × OL × List Dif → OL × OL × List Dif
  | 0, _, st => st
  | n + 1, i, st => cdS n (i + 1) (cdOne st (st.1.getD i none))
noncomputable def cdTwo (st : OL × List Dif) (o : Option (List Int)) : OL × List Dif :=
  match o with
  | none => st
  | some x => (nul x st.1, st.2 ++ [(0, cntO x st.1, x)])
noncomputable def cdT : Nat → Nat → OL × List Dif → OL × List Dif
  | 0, _, st => st
  | n + 1, i, st => cdT n (i + 1) (cdTwo st (st.1.getD i none))
noncomputable def cdOf (s t : List (List Int)) : List Dif :=
  let a := cdS s.length 0 (s.map some, t.map some, [])
  (cdT t.length 0 (a.2.1, a.2.2)).2
end Mine
end
section
open PySem PySem.W PyProof.Rows
set_option maxRecDepth 100000
namespace Mine
/-! lists of ints, and lists of these, as data -/
noncomputable def dI (l : List Int) : Dat := .list (l.map .int)
theorem dI_inj {a b : List Int} : dI a = dI b ↔ a = b := by
  unfold dI
  rw [Dat.list.injEq]
  constructor
  · intro h
    induction a generalizing b with
    | nil => cases b with | nil => rfl | cons => simp at h
    | cons x a ih =>
      cases b with
      | nil => simp at h
      | cons y b => simp at h; rw [h.1, ih h.2]
  · rintro rfl; rfl
theorem dI_ok (n : Nat) (l : List Int) : kqdOk (n + 1) (dI l) = true := by
  unfold dI
  simp only [kqdOk, List.all_eq_true, List.mem_map]
  rintro x ⟨i, _, rfl⟩
  cases n <;> rfl
theorem map_dI_inj {a b : List (List Int)} : a.map dI = b.map dI ↔ a = b := by
  constructor
  · intro h
    induction a generalizing b with
    | nil => cases b with | nil => rfl | cons => simp at h
    | cons x a ih =>
      cases b with
      | nil => simp at h
      | cons y b => simp [dI_inj] at h; rw [h.1, ih h.2]
  · rintro rfl; rfl
theorem dI_mem {l : List Int} {ls : List (List Int)} : dI l ∈ ls.map dI ↔ l ∈ ls := by
  rw [List.mem_map]
  constructor
  · rintro ⟨x, hx, e⟩; rw [← dI_inj.mp e]; exact hx
  · exact fun h => ⟨l, h, rfl⟩

section
variable {hp : Heap}
theorem readsAll_ints {vs : List Value} {l : List Int} (h : All2 IsInt vs l) : ∃ as, ReadsAll hp vs (kqdPs (l.map .int)) as := by
  induction h with
  | nil => exact ⟨_, .nil⟩
  | cons a _ ih =>
    obtain ⟨t, rfl⟩ := a
    obtain ⟨as, r⟩ := ih
    exact ⟨_, .cons (.int _ t) r⟩
theorem reads_ints {v : Value} {l : List Int} (h : Ints hp v l) : ∃ as, Reads hp v (kqdP (dI l)) as := by
  obtain ⟨a, vs, n, rfl, e, r⟩ := h
  obtain ⟨as, q⟩ := readsAll_ints (hp := hp) r
  exact ⟨_, .list e rfl rfl (by simpa [kqdP, dI] using q)⟩
theorem readsAll_ll {vs : List Value} {ls : List (List Int)} (h : All2 (Ints hp) vs ls) : ∃ as, ReadsAll hp vs (kqdPs (ls.map dI)) as := by
  induction h with
  | nil => exact ⟨_, .nil⟩
  | cons a _ ih =>
    obtain ⟨as, r⟩ := ih
    obtain ⟨bs, q⟩ := reads_ints a
    exact ⟨_, .cons q r⟩
theorem reads_ll {v : Value} {ls : List (List Int)} (h : LL hp v ls) : ∃ as, Reads hp v (.list (kqdPs (ls.map dI))) as := by
  obtain ⟨a, vs, n, rfl, e, r⟩ := h
  obtain ⟨as, q⟩ := readsAll_ll r
  exact ⟨_, .list e rfl rfl (by simpa using q)⟩
theorem lls_ok (ls : List (List Int)) : ∀ d ∈ ls.map dI, kqdOk 8 d = true := fun d hd => by
  obtain ⟨l, _, rfl⟩ := List.mem_map.mp hd
  exact dI_ok 7 l

variable {prog : Program} {w : World} {A : Around} {gs : Array GenState} {dr : Drawn} {tk : Nat} {os : OsState} {Q : Value → Shared → Prop}
theorem shaped_ll (ls : List (List Int)) : SeqAt.shaped (.list (kqdPs (ls.map dI))) = true := by
  have l := kqd_lay 9 (.list (ls.map dI)) (by simpa [kqdOk] using fun a ha => dI_ok 7 a)
  rw [kqdP] at l
  unfold SeqAt.shaped; rw [l.1, Bool.true_and]; exact decide_eq_true (Nat.le_trans l.2 (by decide))
theorem eqv_ll (ls ks : List (List Int)) : PyData.eqv (.list (kqdPs (ls.map dI))) (.list (kqdPs (ks.map dI))) = decide (ls = ks) := by
  have q := kqd_eqv 9 (.list (ls.map dI)) (.list (ks.map dI)) 9 (by simpa [kqdOk] using fun a ha => dI_ok 7 a) (by simpa [kqdOk] using fun a ha => dI_ok 7 a)
  rw [kqdP, kqdP, Dat.list.injEq, map_dI_inj] at q
  by_cases hq : ls = ks
  · rw [decide_eq_true hq]; exact q.mpr hq
  · rw [decide_eq_false hq]; exact Bool.eq_false_iff.mpr fun x => hq (q.mp x)
theorem eqLL {v u : Value} {ls ks : List (List Int)} (hv : LL hp v ls) (hu : LL hp u ks) (R : A.units + 64 < cLine) (h : Q (.bool (decide (ls = ks))) ⟨hp, gs, dr, tk, os⟩) : Wp prog w A (compareOp .Eq v u) Q ⟨hp, gs, dr, tk, os⟩ := by
  obtain ⟨as, ra⟩ := reads_ll hv
  obtain ⟨bs, rb⟩ := reads_ll hu
  exact ⟨eq_dataH (s := ⟨hp, gs, dr, tk, os⟩) ra rb (shaped_ll _) (shaped_ll _) R (by rw [eqv_ll]; exact h)⟩
theorem neLL {v u : Value} {ls ks : List (List Int)} (hv : LL hp v ls) (hu : LL hp u ks) (R : A.units + 64 < cLine) (h : Q (.bool (!decide (ls = ks))) ⟨hp, gs, dr, tk, os⟩) : Wp prog w A (compareOp .NotEq v u) Q ⟨hp, gs, dr, tk, os⟩ := by
  obtain ⟨as, ra⟩ := reads_ll hv
  obtain ⟨bs, rb⟩ := reads_ll hu
  exact ⟨ne_dataH (s := ⟨hp, gs, dr, tk, os⟩) ra rb (shaped_ll _) (shaped_ll _) R (by rw [eqv_ll]; exact h)⟩
theorem eqI {v u : Value} {l k : List Int} (hv : Ints hp v l) (hu : Ints hp u k) (R : A.units + 64 < cLine) (h : Q (.bool (decide (l = k))) ⟨hp, gs, dr, tk, os⟩) : Wp prog w A (compareOp .Eq v u) Q ⟨hp, gs, dr, tk, os⟩ := by
  obtain ⟨a, vs, n, rfl, e, r⟩ := hv
  obtain ⟨b, us, k, rfl, e2, r2⟩ := hu
  exact eqInts e e2 r r2 R h
theorem notInLL {v u : Value} {l : List Int} {ls : List (List Int)} (hv : Ints hp v l) (hu : LL hp u ls) (R : A.units + 64 < cLine) (h : Q (.bool (!decide (l ∈ ls))) ⟨hp, gs, dr, tk, os⟩) : Wp prog w A (compareOp .NotIn v u) Q ⟨hp, gs, dr, tk, os⟩ := by
  obtain ⟨as, ra⟩ := reads_ll hu
  obtain ⟨bs, rx⟩ := reads_ints hv
  have lq := kqd_layL (lls_ok ls)
  have ld := kqd_lay 8 (dI l) (dI_ok 7 l)
  have e : ((kqdPs (ls.map dI)).any fun y => PyData.eqv y (kqdP (dI l))) = decide (l ∈ ls) := by
    have q := kqd_any (ls.map dI) (dI l) (lls_ok ls) (dI_ok 7 l)
    rw [dI_mem] at q
    by_cases hq : l ∈ ls
    · rw [decide_eq_true hq]; exact q.mpr hq
    · rw [decide_eq_false hq]; exact Bool.eq_false_iff.mpr fun z => hq (q.mp z)
  refine ⟨SeqAt.notIn_list_reads (s := ⟨hp, gs, dr, tk, os⟩) ra rx lq.1 ld.1 ?_ (by rw [e]; exact h)⟩
  have := Nat.min_le_right (PyData.depthAll (kqdPs (ls.map dI))) (kqdP (dI l)).depth
  have := ld.2
  lia  
end
end Mine
end
section
open PySem PySem.W PyProof.Rows
set_option maxRecDepth 100000
namespace Mine
noncomputable abbrev pg : Program := PySem.Challenge.rw_ij0008_01.row.prog

theorem bb_len : bootBuiltins "len" = some (.builtin "len") := by decide +kernel
theorem bb_abs : bootBuiltins "abs" = some (.builtin "abs") := by decide +kernel
theorem bb_sorted : bootBuiltins "sorted" = some (.builtin "sorted") := by decide +kernel
theorem bb_sum : bootBuiltins "sum" = some (.builtin "sum") := by decide +kernel
theorem bb_range : bootBuiltins "range" = some (.type "range") := by decide +kernel
theorem bb_list : bootBuiltins "list" = some (.type "list") := by decide +kernel
theorem bb_enumerate : bootBuiltins "enumerate" = some (.type "enumerate") := by decide +kernel
theorem bb_object : bootBuiltins "object" = some (.type "object") := by decide +kernel
theorem bb_ValueError : bootBuiltins "ValueError" = some (.type "ValueError") := by decide +kernel
theorem bb_tuple : bootBuiltins "tuple" = some (.type "tuple") := by decide +kernel

/-- room for k calls within each other -/
structure Rm (A : Around) (k : Nat) : Prop where
  hh : A.handled = none
  dp : A.depth + k < recursionLimit
  un : A.units + 3 * k + 200 < cLine
theorem Rm.deeper {A : Around} {k : Nat} {env : Env} (R : Rm A (k + 1)) : Rm (A.deeper env) k := ⟨R.hh, by have := R.dp; show A.depth + 1 + k < _; lia  , by have := R.un; show A.units + 3 + 3 * k + 200 < _; lia  ⟩
theorem Rm.less {A : Around} {k j : Nat} (R : Rm A k) (h : j ≤ k) : Rm A j := ⟨R.hh, by have := R.dp; lia  , by have := R.un; lia  ⟩
theorem Rm.u64 {A : Around} {k : Nat} (R : Rm A k) : A.units + 64 < cLine := by have := R.un; lia
theorem Rm.u74 {A : Around} {k : Nat} (R : Rm A k) : A.units + 64 + 10 < cLine := by have := R.un; lia
theorem Rm.u200 {A : Around} {k : Nat} (R : Rm A k) : A.units + 200 < cLine := by have := R.un; lia
theorem Rm.room {A : Around} {k : Nat} (R : Rm A k) : A.depth < recursionLimit := by have := R.dp; lia  

/-- a function object of the persistent part that takes an int to a truth value -/
structure BoolFn (w : World) (k : Nat) (g : Heap) (f : Value) (p : Int → Bool) : Prop where
  obj : ∃ a o fd, f = .ref a ∧ g.get? a = some o ∧ o.data = .func fd
  go : ∀ (A : Around) (hp : Heap) (gs : Array GenState) (dr : Drawn) (tk : Nat) (os : OsState) (g1 : Heap) (i : Int) (t : Tok) (Q : Value → Shared → Prop), Gl (KK w) hp → LE g g1 → LE g1 hp → Rm A k →
    (∀ g' h' tk', Stp g1 hp g' h' → Q (.bool (p i)) ⟨h', gs, dr, tk', os⟩) → Wp pg w A (call f [.int i t]) Q ⟨hp, gs, dr, tk, os⟩
theorem BoolFn.mono {w : World} {k : Nat} {g g' : Heap} {f : Value} {p : Int → Bool} (h : BoolFn w k g f p) (l : LE g g') : BoolFn w k g' f p :=
  ⟨let ⟨a, o, fd, e, r, d⟩ := h.obj; ⟨a, o, fd, e, l _ _ r, d⟩, fun A hp gs dr tk os g1 i t Q G l1 => h.go A hp gs dr tk os g1 i t Q G (l.tr l1)⟩

/-- f(x) where f and x are names (of any kind) -/
theorem call_bool {w : World} {k : Nat} {A : Around} {hp : Heap} {gs : Array GenState} {dr : Drawn} {tk : Nat} {os : OsState} {env : Env} {g g1 : Heap} {f : Value} {p : Int → Bool} {i : Int} {t : Tok} {x : Str} {np pos : Pos} {e : Expr} {Q : Value → Shared → Prop}
    (F : BoolFn w k g f p) (G : Gl (KK w) hp) (l1 : LE g g1) (l2 : LE g1 hp) (R : Rm A k)
    (hf : ∀ Q, Q f ⟨hp, gs, dr, tk, os⟩ → Wp pg w A (eval (.Name x np) env) Q ⟨hp, gs, dr, tk, os⟩)
    (hx : ∀ Q, Q (.int i t) ⟨hp, gs, dr, tk, os⟩ → Wp pg w A (eval e env) Q ⟨hp, gs, dr, tk, os⟩)
    (h : ∀ g' h' tk', Stp g1 hp g' h' → Q (.bool (p i)) ⟨h', gs, dr, tk', os⟩)
    (he : starEach [e] env = (false, eval e env) :: starEach [] env := by rfl) (he2 : backTo pos (starEach [e] env) = (false, eval e env) :: backTo pos (starEach [] env) := by rfl) :
    Wp pg w A (eval (.Call (.Name x np) [e] [] pos) env) Q ⟨hp, gs, dr, tk, os⟩ := by
  obtain ⟨a, o, fd, rfl, ho, hd⟩ := F.obj
  refine callFn (hf _ ⟨rfl, arg1 (hx _ ⟨⟨l2 _ _ (l1 _ _ ho), hd⟩, ?_⟩) he2⟩) he
  exact F.go A hp gs dr tk os g1 i t Q G l1 l2 R h
end Mine
end
section
open PySem PySem.W PyProof.Rows
set_option maxRecDepth 100000
namespace Mine
noncomputable def sgnRow (x : Int) : List Int := [0, 256 + (if x < 0 then -x else x).fdiv 4, x.fdiv 4, -1 - (if x < 0 then -x else x).fdiv 4]
noncomputable def sgn (x : Int) : Int := (sgnRow x).getD (x.fmod 4).toNat 0
noncomputable def padL : List Int := [5, 5, 0, 6, 5, 0, 6, 0, 6]
noncomputable def signsOf (ns : List Int) : List Int := (ns.take 16 ++ padL).map sgn
noncomputable def nSigns : List (Str × NameKind) := [("script", .local), ("row", .local), ("x", .local), ("abs", .globalImplicit)]

theorem All2.snoc_take {α β : Type} {R : Value → β → Prop} {f : α → β} {out : List Value} {v : Value} {xs : List α} {i : Nat} {x : α} (h : All2 R out ((xs.map f).take i)) (hx : xs[i]? = some x) (hv : R v (f x)) : All2 R (out ++ [v]) ((xs.map f).take (i + 1)) := by
  rw [List.take_add_one, List.getElem?_map, hx]
  exact h.app (.one hv)
inductive J1 (gs : Array GenState) (dr : Drawn) (os : OsState) (g₇ : Heap) (hp : Heap) (g : Heap) (L : Addr) (cs : List (Str × Addr)) (cm : Str → Option Value) (I : Addr) (c₇ : Addr) (D : Addr) (xs : List Int) (i : Nat) (s : Shared) : Prop
  | mk (h' : Heap) (tk' : Nat) (m' : Str → Option Value) (out : List Value) (g' : Heap)
    (q0 : s = ⟨h', gs, dr, tk', os⟩) (q1 : LE g₇ g') (q2 : m' "row" = some (.ref D)) (q3 : Bd hp g L cs m' cm [(I, listIt c₇ i), (D, isLst out)] g' h') (q4 : All2 IsInt out ((xs.map sgn).take i))

section
variable {w : World} {A : Around} {hp : Heap} {gs : Array GenState} {dr : Drawn} {tk : Nat} {os : OsState} {g : Heap}
set_option maxHeartbeats 1000000 in
theorem signs_spec {a : Addr} {vs : List Value} {ns : List Int} {Q : Value → Shared → Prop} (G : Gl (KK w) hp) (hg : LE g hp) (R : Rm A 1) (hl : hp.IsList a vs.toArray) (hi : All2 IsInt vs ns) (hlen : ns.length ≤ 63)
    (h : ∀ g' h' tk' v, Stp g hp g' h' → Ints g' v (signsOf ns) → Q v ⟨h', gs, dr, tk', os⟩) : Wp pg w A (call (.ref 180) [.ref a]) Q ⟨hp, gs, dr, tk, os⟩ := by
  refine enter (K := KK w) (fd := _) (names := nSigns) (binds := [("script", .ref a)]) (nms := ["script"]) G hg R.room (by rfl) (by rfl) (by rfl) (by rfl) (by rfl) (by rfl) (by rfl) (by decide) ?_ (by rfl) (by rfl) ?_
  · intro L x hx
    rcases List.mem_singleton.mp hx with rfl
    exact .inl (by rfl)
  · intro env L cs m cm h₁ tk₁ V hcs hm _ B
    have R' : Rm (A.deeper env) 0 := R.deeper
    have hms : m "script" = some (.ref a) := hm _ (.head _) (by rfl)
    -- row = []
    refine sCons (sAssign (dispO (argNil ⟨_, _, _, _, _, rfl, by decide, fun h₂ D e1 e2 => ?_⟩)))
    have B₂ := B.mk1 e1 e2
    refine storeL V B₂ (by rfl) fun h₃ tk₃ B₃ => ?_
    -- the loop's list
    have hl₃ : h₃.IsList a vs.toArray := let ⟨o, e, r⟩ := hl; ⟨o, B₃.kp _ _ e, r⟩
    have hv := hi.len
    refine sCons (sFor (eBin (eSlice (nameL V B₃ (by rfl) (upd_of hms) (pNone (pSome (cInt fun t₄ tk₄ => pNone ⟨_, _, _, _, _, rfl, ?_⟩)))))))
    refine slice_tail (g := g) B₃.le hl₃ .none (.int 16 t₄) .none (by decide) (by rw [List.size_toArray, sizeLine_eq]; lia  ) fun g₅ h₅ c₅ S₅ e₅ => ?_
    have B₅ := B₃.pure S₅
    rw [show (some (16 : Int)) = some ((16 : Nat) : Int) from rfl, pick_upto vs 16] at e₅
    refine dispP (argCons (cInt fun t1 tk1 => argCons (cInt fun t2 tk2 => argCons (cInt fun t3 tk3 => argCons (cInt fun t4 tk4 => argCons (cInt fun t5 tk5 => argCons (cInt fun t6 tk6 => argCons (cInt fun t7 tk7 => argCons (cInt fun t8 tk8 => argCons (cInt fun t9 tk9 => argNil ⟨_, _, _, _, _, _, rfl, B₅.le, ?_, fun g₆ h₆ c₆ S₆ e₆ => ?_⟩))))))))))
    · simp only [List.length_cons, List.length_nil]; rw [sizeLine_eq]; lia  
    have B₆ := B₅.pure S₆
    refine list_add B₆.le (S₆.le _ _ e₅) e₆ (by simp only [List.length_cons, List.length_nil, List.length_take]; rw [sizeLine_eq]; lia  ) fun g₇ h₇ c₇ S₇ e₇ => ?_
    have B₇ := B₆.pure S₇
    have hall : All2 IsInt (vs.take 16 ++ [Value.int 5 t1, .int 5 t2, .int 0 t3, .int 6 t4, .int 5 t5, .int 0 t6, .int 6 t7, .int 0 t8, .int 6 t9]) (ns.take 16 ++ padL) :=
      (hi.take 16).app (.cons ⟨_, rfl⟩ (.cons ⟨_, rfl⟩ (.cons ⟨_, rfl⟩ (.cons ⟨_, rfl⟩ (.cons ⟨_, rfl⟩ (.cons ⟨_, rfl⟩ (.cons ⟨_, rfl⟩ (.cons ⟨_, rfl⟩ (.cons ⟨_, rfl⟩ .nil)))))))))
    generalize hvs : vs.take 16 ++ [Value.int 5 t1, .int 5 t2, .int 0 t3, .int 6 t4, .int 5 t5, .int 0 t6, .int 6 t7, .int 0 t8, .int 6 t9] = us at e₇ hall
    generalize hxs : ns.take 16 ++ padL = xs at hall
    have hxl : xs.length ≤ 25 := by rw [← hxs]; simp [padL]; lia  
    have hul := hall.len
    refine iterL B₇ e₇ fun h₈ I B₈ => ?_
    have W : It pg w (A.deeper env) g₇ I us.length (fun i v => us[i]? = some v) (listIt c₇) := It.list R'.hh e₇
    refine for_loop us.length (J1 gs dr os g₇ hp g L cs cm I c₇ D xs) ?turn ?last ⟨_, _, _, [], _, rfl, LE.rfl', upd_self, B₈, by simp; exact .nil⟩
    case last =>
      rintro s ⟨h', tk', m', out, g', rfl, hle, hr, B', ho⟩
      refine lastI (pre := []) W hle B' fun h9 tk9 B9 => ⟨rfl, _, rfl, ?_⟩
      refine sCons (sRet (nameL V B9 (by rfl) hr ?_))
      obtain ⟨g10, o, B10, l10, e10, ⟨n, rfl⟩, _⟩ := B9.freeze (pre := [])
      refine h g10 h9 tk9 _ B10.exit ⟨D, out, n, rfl, e10, ?_⟩
      rw [hul, ← List.length_map (f := sgn), List.take_length] at ho
      rw [signsOf, hxs]; exact ho
    case turn =>
      rintro i s hi' ⟨h', tk', m', out, g', rfl, hle, hr, B', ho⟩
      refine stepI (pre := []) W hle B' hi' fun v h9 tk9 hv9 B9 => ⟨v, rfl, ?_⟩
      obtain ⟨x, hx, t, rfl⟩ := hall.get hv9
      refine letGo_name (assignL V B9 (by rfl) fun h10 tk10 B10 => ?_)
      have G10 : Gl (KK w) h10 := G.mono B10.kp
      have hol := ho.len
      rw [List.length_take, List.length_map] at hol
      obtain ⟨nD, eD⟩ := B10.atL (a := D) (vs := out) (by first | exact .head _ | exact .tail _ (.head _) | exact .tail _ (.tail _ (.head _)) | exact .tail _ (.tail _ (.tail _ (.head _))) | exact .tail _ (.tail _ (.tail _ (.tail _ (.head _)))) | exact .tail _ (.tail _ (.tail _ (.tail _ (.tail _ (.head _))))))
      refine sCons (sAppend (nameL V B10 (by rfl) (upd_of hr) ⟨D, out, nD, rfl, eD, ?_⟩) V.quiet)
      -- the four signs
      refine eSub (dispP (argCons (cInt fun t1 tk1 => ?_)))
      refine argCons (eBin (cInt fun t2 tk2 => eBin (callBu (nameB V G10 (by rfl) (by rfl) (by decide +kernel) ⟨rfl, arg1 (nameL V B10 (by rfl) upd_self (iAbs fun t3 tk3 => ?_))⟩))))
      refine cInt fun t4 tk4 => iFlo (by decide) (by decide) fun t5 tk5 => iAdd fun t6 tk6 => ?_
      refine argCons (eBin (nameL V B10 (by rfl) upd_self (cInt fun t7 tk7 => iFlo (by decide) (by decide) fun t8 tk8 => ?_)))
      refine argCons (eBin (eUn (cInt fun t9 tk9 => iNeg fun t10 tk10 => eBin (callBu (nameB V G10 (by rfl) (by rfl) (by decide +kernel) ⟨rfl, arg1 (nameL V B10 (by rfl) upd_self (iAbs fun t11 tk11 => ?_))⟩)))))
      refine cInt fun t12 tk12 => iFlo (by decide) (by decide) fun t13 tk13 => iSub fun t14 tk14 => ?_
      refine argNil ⟨_, _, _, _, _, _, rfl, B10.le, ?_, fun g11 h11 c11 S11 e11 => ?_⟩
      · simp only [List.length_cons, List.length_nil]; rw [sizeLine_eq]; lia  
      have B11 := B10.pure S11
      refine eBin (nameL V B11 (by rfl) upd_self (cInt fun t15 tk15 => iMod (by decide) fun t16 tk16 => ?_))
      have f0 : 0 ≤ x.fmod 4 := Int.fmod_nonneg_of_pos x (by decide)
      have f4 : x.fmod 4 < 4 := Int.fmod_lt_of_pos x (by decide)
      have hrow : All2 IsInt [Value.int 0 t1, .int (256 + (if x < 0 then -x else x).fdiv 4) t6, .int (x.fdiv 4) t8, .int (-1 - (if x < 0 then -x else x).fdiv 4) t14] (sgnRow x) := .cons ⟨_, rfl⟩ (.cons ⟨_, rfl⟩ (.cons ⟨_, rfl⟩ (.cons ⟨_, rfl⟩ .nil)))
      have hsg : (sgnRow x)[(x.fmod 4).toNat]? = some (sgn x) := by
        have : (x.fmod 4).toNat < (sgnRow x).length := by show _ < 4; lia  
        rw [List.getElem?_eq_getElem this]; unfold sgn; rw [List.getD_eq_getElem?_getD, List.getElem?_eq_getElem this]; rfl
      obtain ⟨sv, hsv, hsi⟩ := hrow.get' hsg
      refine item_at (isList_of (S11.le' _ _ e11)) f0 (by lia  ) (by simpa using hsv) ?_
      refine append_own (pre := [(I, listIt c₇ (i + 1))]) B11 (by rw [hol, sizeLine_eq]; lia  ) fun h12 B12 => ?_
      exact sNil ⟨h12, _, _, _, _, rfl, hle.tr S11.le, upd_of hr, B12, ho.snoc_take hx hsi⟩
end
end Mine
end
section
open PySem PySem.W PyProof.Rows
set_option maxRecDepth 100000
namespace Mine
/-- one sign more: the finished sides, the last one -/
noncomputable def sideStep (ends : Int → Bool) (st : List (List Int) × List Int) (c : Int) : List (List Int) × List Int :=
  if ends c then (st.1 ++ [st.2], []) else if st.2.length = 3 then (st.1 ++ [st.2], [c]) else (st.1, st.2 ++ [c])
noncomputable def sidesRaw (ends : Int → Bool) (row : List Int) : List (List Int) := let st := row.foldl (sideStep ends) ([], []); st.1 ++ [st.2]
noncomputable def sidesOf (ends plain : Int → Bool) (row : List Int) : List (List Int) := (sidesRaw ends row).take 2 ++ (((sidesRaw ends row).drop 2).take 2).map (·.filter plain)
noncomputable def nSides : List (Str × NameKind) := [("row", .local), ("ends", .local), ("plain", .cell), ("sides", .local), ("sign", .local), ("len", .globalImplicit)]

theorem side_fold (ends : Int → Bool) : ∀ (row : List Int) (st : List (List Int) × List Int), (∀ s ∈ st.1, s.length ≤ 3) → st.2.length ≤ 3 → (∀ s ∈ (row.foldl (sideStep ends) st).1, s.length ≤ 3) ∧ (row.foldl (sideStep ends) st).2.length ≤ 3
  | [], st, h1, h2 => ⟨h1, h2⟩
  | c :: row, st, h1, h2 => by
    have snoc : ∀ s ∈ st.1 ++ [st.2], s.length ≤ 3 := fun s hs => by
      rcases List.mem_append.mp hs with hs | hs
      · exact h1 s hs
      · rw [List.mem_singleton.mp hs]; exact h2
    rw [List.foldl_cons]
    refine side_fold ends row _ ?_ ?_
    · unfold sideStep; split
      · exact snoc
      · split
        · exact snoc
        · exact h1
    · unfold sideStep; split
      · exact Nat.zero_le _
      · split
        · simp
        · simp; lia  
theorem sides_len3 (ends : Int → Bool) (row : List Int) : ∀ s ∈ sidesRaw ends row, s.length ≤ 3 := fun s hs => by
  have h := side_fold ends row ([], []) (fun _ h => by cases h) (Nat.zero_le _)
  rcases List.mem_append.mp hs with hs | hs
  · exact h.1 s hs
  · rw [List.mem_singleton.mp hs]; exact h.2
inductive J2 (gs : Array GenState) (dr : Drawn) (os : OsState) (g : Heap) (hp : Heap) (L : Addr) (cs : List (Str × Addr)) (cm : Str → Option Value) (ev : Value) (D : Addr) (I : Addr) (a : Addr) (row : List Int) (ends : Int → Bool) (i : Nat) (s : Shared) : Prop
  | mk (h' : Heap) (tk' : Nat) (m' : Str → Option Value) (g' : Heap) (l : Addr) (pre : List Value) (last : List Value) (pxs : List (List Int)) (lxs : List Int)
    (q0 : s = ⟨h', gs, dr, tk', os⟩) (q1 : LE g g') (q2 : m' "ends" = some ev) (q3 : m' "sides" = some (.ref D)) (q4 : Bd hp g L cs m' cm [(l, isLst last), (I, listIt a i), (D, isLst (pre ++ [.ref l]))] g' h') (q5 : All2 (Ints g') pre pxs) (q6 : All2 IsInt last lxs) (q7 : (row.take i).foldl (sideStep ends) ([], []) = (pxs, lxs)) (q8 : pxs.length ≤ i) (q9 : lxs.length ≤ 3)

section
variable {w : World} {A : Around} {hp : Heap} {gs : Array GenState} {dr : Drawn} {tk : Nat} {os : OsState} {g : Heap}
set_option maxHeartbeats 1000000 in
theorem sides_spec {rv ev pv : Value} {row : List Int} {ends plain : Int → Bool} {k : Nat} {Q : Value → Shared → Prop} (G : Gl (KK w) hp) (hg : LE g hp) (R : Rm A (k + 1)) (hr : Ints g rv row) (he : BoolFn w k g ev ends) (hpl : BoolFn w k g pv plain)
    (hlen : row.length ≤ 25) (h4 : 4 ≤ (sidesRaw ends row).length)
    (h : ∀ g' h' tk' v, Stp g hp g' h' → LL g' v (sidesOf ends plain row) → Q v ⟨h', gs, dr, tk', os⟩) : Wp pg w A (call (.ref 185) [rv, ev, pv]) Q ⟨hp, gs, dr, tk, os⟩ := by
  obtain ⟨a, vs, n, rfl, ea, hall⟩ := hr
  refine enter (K := KK w) (fd := _) (names := nSides) (binds := [("row", .ref a), ("ends", ev), ("plain", pv)]) (nms := ["row", "ends", "plain"]) G hg R.room (by rfl) (by rfl) (by rfl) (by rfl) (by rfl) (by rfl) (by rfl) (by decide) ?_ (by rfl) (by rfl) ?_
  · intro L x hx
    rcases List.mem_cons.mp hx with rfl | hx
    · exact .inl (by rfl)
    rcases List.mem_cons.mp hx with rfl | hx
    · exact .inl (by rfl)
    rcases List.mem_singleton.mp hx with rfl
    exact .inr ⟨by rfl, by rfl⟩
  · intro env L cs m cm h₁ tk₁ V hcs hm hcm B
    have R' : Rm (A.deeper env) k := R.deeper
    have hmr : m "row" = some (.ref a) := hm _ (.head _) (by rfl)
    have hme : m "ends" = some ev := hm _ (.tail _ (.head _)) (by rfl)
    have hcp : cm "plain" = some pv := hcm _ (.tail _ (.tail _ (.head _))) (by rfl)
    have hvl := hall.len
    -- sides = [[]]
    refine sCons (sAssign (dispO (argCons (dispO (argNil ⟨_, _, _, _, _, rfl, by decide, fun h₂ l₀ e1 e2 => argNil ⟨_, _, _, _, _, rfl, by simp [sizeLine_eq], fun h₃ D e3 e4 => ?_⟩⟩)))))
    have B₃ := (B.mk1 e1 e2).mk1 e3 e4
    refine storeL V B₃ (by rfl) fun h₄ tk₄ B₄ => ?_
    -- the loop
    refine sCons (sFor (nameL V B₄ (by rfl) (upd_of hmr) (iterL B₄ ea fun h₅ I B₅ => ?_)))
    have W : It pg w (A.deeper env) g I vs.length (fun i v => vs[i]? = some v) (listIt a) := It.list R'.hh ea
    refine for_loop vs.length (J2 gs dr os g hp L cs cm ev D I a row ends) ?turn ?last
        ⟨_, _, _, g, l₀, [], [], [], [], rfl, LE.rfl', upd_of hme, upd_self, B₅.perm ?perm, .nil, .nil, by simp, Nat.le_refl _, Nat.zero_le _⟩
    case perm => exact .trans (.cons _ (.swap ..)) (.swap ..)
    case last =>
      rintro s ⟨h', tk', m', g', l, pre, last, pxs, lxs, rfl, hle, hme', hms', B', hpre, hlast, hfold, hpl1, hpl2⟩
      refine lastI (pre := [(l, isLst last)]) W hle B' fun h6 tk6 B6 => ⟨rfl, _, rfl, ?_⟩
      obtain ⟨g7, o7, B7, l7, e7, ⟨n7, rfl⟩, _⟩ := B6.freeze (pre := [])
      obtain ⟨g8, o8, B8, l8, e8, ⟨n8, rfl⟩, _⟩ := B7.freeze (pre := [])
      have hraw : sidesRaw ends row = pxs ++ [lxs] := by
        unfold sidesRaw; rw [hvl, List.take_length] at hfold; rw [hfold]
      have hrefs : All2 (Ints g8) (pre ++ [.ref l]) (sidesRaw ends row) := by
        rw [hraw]
        exact (AllInts.mono (l7.tr l8) hpre).app (.one ⟨l, last, n7, rfl, l8 _ _ e7, hlast⟩)
      generalize hrs : pre ++ [Value.ref l] = refs at e8 hrefs
      have hrl := hrefs.len
      have hr26 : refs.length ≤ 26 := by rw [← hrs]; have := hpre.len; simp; lia  
      -- sides[:2]
      refine sCons (sRet (eBin (eSlice (nameL V B8 (by rfl) hms' (pNone (pSome (cInt fun t1 tk1 => pNone ⟨_, _, _, _, _, rfl, ?_⟩)))))))
      refine slice_tail (g := g8) B8.le (isList_of (B8.le _ _ e8)) .none (.int 2 t1) .none (by decide) (by simp [sizeLine_eq]; lia  ) fun g9 h9 c9 S9 e9 => ?_
      have B9 := B8.pure S9
      rw [show (some (2 : Int)) = some ((2 : Nat) : Int) from rfl, pick_upto refs 2] at e9
      -- the comprehension over sides[2:4]
      subst hcs
      refine comp_eval (cl := [("plain", L + 1)]) (closure_of V.cl (by rfl)) (by decide) (by rfl) (by decide) (eSlice (nameL V B9 (by rfl) hms' (pSome (cInt fun t2 tk2 => pSome (cInt fun t3 tk3 => pNone ⟨_, _, _, _, _, rfl, ?_⟩)))))
      refine slice_tail (g := g9) B9.le (isList_of (B9.le _ _ (S9.le _ _ e8))) (.int 2 t2) (.int 4 t3) .none (by decide) (by simp [sizeLine_eq]; lia  ) fun g10 h10 c10 S10 e10 => ?_
      have B10 := B9.pure S10
      rw [show (some (2 : Int)) = some ((2 : Nat) : Int) from rfl, show (some (4 : Int)) = some ((4 : Nat) : Int) from rfl, slicePick_run refs.toArray 2 4 (by simp; lia  ) (by lia  )] at e10
      simp only at e10
      have hsrc : All2 (Ints g10) ((refs.drop 2).take 2) (((sidesRaw ends row).drop 2).take 2) := ((AllInts.mono (S9.le.tr S10.le) hrefs).drop 2).take 2
      refine ⟨h10, _, _, _, _, g10, _, fun out gg => All2 (Ints gg) out ((((sidesRaw ends row).drop 2).take 2).map fun y : List Int => y.filter plain), rfl, B10.le, Ready.list B10.le e10, fun out x y l h => AllInts.mono l h, fun C D₁ I₁ h11 tk11 hI B11 => ?_, fun g12 h12 tk12 D₂ out n S12 e12 hout => ?_⟩
      · have hc10 : h10.IsCell (L + 1) (some pv) := hcp ▸ B10.cell "plain" (L + 1) (by rfl)
        have G10 := G.mono B10.kp
        have V1 := fun C => V.comp (C := C) (cl := [("plain", L + 1)]) (scope := { kind := .function, names := [(".0", .local), ("side", .local), ("plain", .free)], isGenerator := false, isCoroutine := false }) (by rfl)
        refine compL (out₀ := []) (rest := []) (d := 0) (by rfl) (.inl (by rfl)) (It.list R'.hh e10) LE.rfl' hsrc.len (Ints g10) (fun i v hv => hsrc.get hv) (fun _ => True) (fun gg v y => Ints gg v y) (fun a b v y l h => IsL.mono l h) (fun y : List Int => [y.filter plain]) ?_ trivial (B11.weaken (pre := [(D₁, isLst [])]) (q := listIt c10 0) ?_) ?_
        · intro i v x m' ys g' h12 tk12 hx hv l _ hys B12
          refine letGo_name (assignL (V1 C) B12 (by rfl) fun h13 tk13 B13 => tests_nil ?_)
          have hyl := hys.len
          rw [fm_one, List.length_map, List.length_take] at hyl
          refine emit_one ?_ (by show ([] ++ ys).length ≤ _; simp only [List.nil_append]; rw [sizeLine_eq]; have : ((((sidesRaw ends row).drop 2).take 2)).length ≤ 2 := by { simp; lia   }
                                 lia  )
          obtain ⟨c13, us, n13, rfl, e13, hus⟩ := IsL.mono l hv
          refine comp_eval (cl := [("plain", L + 1)]) (closure_of (V1 C).cl (by rfl)) (by decide) (by rfl) (by decide) (nameL (V1 C) B13 (by rfl) upd_self ?_)
          have hc13 : h13.IsCell (L + 1) (some pv) := hc10.keeps B13.kp
          have G13 := G10.mono B13.kp
          refine ⟨h13, _, _, _, _, g', _, fun out gg => All2 IsInt out (x.filter plain), rfl, B13.le, Ready.list B13.le e13, fun out a b l h => h, fun C2 D2 I2 h14 tk14 _ B14 => ?_, fun g15 h15 tk15 D3 out n15 S15 e15 hout => ?_⟩
          · have V2 := (V1 C).comp (C := C2) (cl := [("plain", L + 1)]) (scope := { kind := .function, names := [(".0", .local), ("sign", .local), ("plain", .free)], isGenerator := false, isCoroutine := false }) (by rfl)
            refine compL (out₀ := []) (rest := []) (d := 0) (by rfl) (.inl (by rfl)) (It.list R'.hh e13) LE.rfl' hus.len IsInt (fun i v hv => hus.get hv) (fun _ => True) (fun _ v y => IsInt v y) (fun a b v y l h => h) (fun y : Int => if plain y then [y] else []) ?_ trivial (B14.weaken (pre := [(D2, isLst [])]) (q := listIt c13 0) ?_) ?_
            · intro i2 v2 c m2 zs g16 h16 tk16 hx2 hv2 l2 _ hzs B16
              obtain ⟨t, rfl⟩ := hv2
              refine letGo_name (assignL V2 B16 (by rfl) fun h17 tk17 B17 => tests_one (tVal (call_bool hpl (G13.mono B17.kp) (hle.tr (((l7.tr l8).tr (S9.le.tr S10.le)).tr (l.tr l2))) B17.le R' (fun Q q => nameC V2 (by rfl) (by rfl) (hc13.keeps B17.kp) q) (fun Q q => nameL V2 B17 (by rfl) upd_self q) fun g18 h18 tk18 S18 => truB ?_)))
              have B18 := B17.pure S18
              cases hpc : plain c with
              | true =>
                rw [if_pos rfl]
                have hzl := hzs.len
                refine emit_one (nameL V2 B18 (by rfl) upd_self ⟨_, _, _, _, rfl, S18.le, trivial, B18, ⟨t, rfl⟩⟩) ?_
                rw [fm_if] at hzl
                have hx3 : x.length ≤ 3 := sides_len3 ends row x (List.mem_of_mem_drop (List.mem_of_mem_take (List.mem_of_getElem? hx)))
                have := List.length_filter_le plain (x.take i2)
                rw [List.length_take] at this
                show ([] ++ zs).length ≤ _
                rw [List.nil_append, sizeLine_eq]; lia  
              | false =>
                rw [if_neg (by simp)]
                exact turned_nil S18.le trivial B18
            · rintro o rfl; exact ⟨rfl, rfl⟩
            · intro h' tk' m' g' ys l _ B' hy
              exact ⟨_, h', tk', m', ys, [], g', rfl, rfl, B', by rw [fm_if] at hy; exact hy⟩
          · exact ⟨h15, tk15, _, g15, rfl, S15.le, trivial, B13.pure S15, ⟨D3, out, n15, rfl, e15, hout⟩⟩
        · rintro o rfl; exact ⟨rfl, rfl⟩
        · intro h' tk' m' g' ys l _ B' hy
          exact ⟨_, h', tk', m', ys, [], g', rfl, rfl, B', by rw [fm_one] at hy; exact hy⟩
      · have B12 := B10.pure S12
        refine list_add (g := g12) S12.le' ((S10.le.tr S12.le) _ _ e9) e12 (by have := hout.len; simp at this ⊢; rw [sizeLine_eq]; lia  ) fun g13 h13 c13 S13 e13 => ?_
        refine h g13 h13 _ _ (B12.exit.tr S13) ⟨c13, _, _, rfl, e13, ?_⟩
        exact (AllInts.mono ((S9.le.tr S10.le).tr (S12.le.tr S13.le)) hrefs |>.take 2).app (AllInts.mono S13.le hout)
    case turn =>
      rintro i s hi ⟨h', tk', m', g', l, pre, last, pxs, lxs, rfl, hle, hme', hms', B', hpre, hlast, hfold, hpl1, hpl2⟩
      refine stepI (pre := [(l, isLst last)]) W hle B' hi fun v h6 tk6 hv6 B6 => ⟨v, rfl, ?_⟩
      obtain ⟨c, hc, t, rfl⟩ := hall.get hv6
      refine letGo_name (assignL V B6 (by rfl) fun h7 tk7 B7 => ?_)
      have hfold' : (row.take (i + 1)).foldl (sideStep ends) ([], []) = sideStep ends (pxs, lxs) c := by
        rw [List.take_add_one, hc, List.foldl_append, hfold]; rfl
      have hpl3 := hpre.len
      have G7 := G.mono B7.kp
      -- if ends(sign)
      refine sCons (sIf (tVal (call_bool he G7 hle B7.le R' (fun Q q => nameL V B7 (by rfl) (upd_of hme') q) (fun Q q => nameL V B7 (by rfl) upd_self q) fun g8 h8 tk8 S8 => truB ?_)))
      have B8 := B7.pure S8
      by_cases hec : ends c = true
      · refine kIf_t hec ?_
        obtain ⟨nD, eD⟩ := B8.atL (a := D) (vs := (pre ++ [.ref l])) (by first | exact .head _ | exact .tail _ (.head _) | exact .tail _ (.tail _ (.head _)) | exact .tail _ (.tail _ (.tail _ (.head _))) | exact .tail _ (.tail _ (.tail _ (.tail _ (.head _)))) | exact .tail _ (.tail _ (.tail _ (.tail _ (.tail _ (.head _))))))
        refine sCons (sAppend (nameL V B8 (by rfl) (upd_of hms') ⟨D, _, nD, rfl, eD, dispO (argNil ⟨_, _, _, _, _, rfl, by decide, fun h9 l' e1 e2 => ?_⟩)⟩) V.quiet)
        refine append_own (pre := [(l', isLst []), (l, isLst last), (I, listIt a (i + 1))]) (B8.mk1 e1 e2) (by simp [sizeLine_eq]; lia  ) fun h10 B10 => sNil (sNil ?_)
        obtain ⟨g11, o, B11, l11, e11, ⟨n11, rfl⟩, _⟩ := B10.freeze (pre := [(l', isLst [])])
        refine ⟨h10, _, _, g11, l', pre ++ [.ref l], [], pxs ++ [lxs], [], rfl, (hle.tr S8.le).tr l11, upd_of hme', upd_of hms', B11, (AllInts.mono (S8.le.tr l11) hpre).app (.one ⟨l, last, n11, rfl, e11, hlast⟩), .nil, ?_, ?_, Nat.zero_le _⟩
        · rw [hfold']; simp [sideStep, hec]
        · simp; lia  
      · refine kIf_f hec ?_
        -- elif len(sides[-1]) == 3
        obtain ⟨nD, eD⟩ := B8.atL (a := D) (vs := (pre ++ [.ref l])) (by first | exact .head _ | exact .tail _ (.head _) | exact .tail _ (.tail _ (.head _)) | exact .tail _ (.tail _ (.tail _ (.head _))) | exact .tail _ (.tail _ (.tail _ (.tail _ (.head _)))) | exact .tail _ (.tail _ (.tail _ (.tail _ (.tail _ (.head _))))))
        obtain ⟨nl, el⟩ := B8.atL (a := l) (vs := last) (by first | exact .head _ | exact .tail _ (.head _) | exact .tail _ (.tail _ (.head _)) | exact .tail _ (.tail _ (.tail _ (.head _))) | exact .tail _ (.tail _ (.tail _ (.tail _ (.head _)))) | exact .tail _ (.tail _ (.tail _ (.tail _ (.tail _ (.head _))))))
        have hll := hlast.len
        have G8 := G.mono B8.kp
        refine sCons (sIf (tCmp (callBu (nameB V G8 (by rfl) (by rfl) bb_len ⟨rfl, arg1 (eSub (nameL V B8 (by rfl) (upd_of hms') (eUn (cInt fun t1 tk1 => iNeg fun t2 tk2 => ?_))))⟩))))
        refine item_last eD ?_
        refine lenL (isList_of el) (by simp; lia  ) fun t3 tk3 => cInt fun t4 tk4 => iEq (truB ?_)
        by_cases h3 : last.length = 3
        · refine kIf_t (by simp [h3]) ?_
          refine sCons (sAppend (nameL V B8 (by rfl) (upd_of hms') ⟨D, _, nD, rfl, eD, dispO (argCons (nameL V B8 (by rfl) upd_self (argNil ⟨_, _, _, _, _, rfl, by simp [sizeLine_eq], fun h9 l' e1 e2 => ?_⟩)))⟩) V.quiet)
          refine append_own (pre := [(l', isLst [.int c t]), (l, isLst last), (I, listIt a (i + 1))]) (B8.mk1 e1 e2) (by simp [sizeLine_eq]; lia  ) fun h10 B10 => sNil (sNil (sNil ?_))
          obtain ⟨g11, o, B11, l11, e11, ⟨n11, rfl⟩, _⟩ := B10.freeze (pre := [(l', isLst [.int c t])])
          refine ⟨h10, _, _, g11, l', pre ++ [.ref l], [.int c t], pxs ++ [lxs], [c], rfl, (hle.tr S8.le).tr l11, upd_of hme', upd_of hms', B11, (AllInts.mono (S8.le.tr l11) hpre).app (.one ⟨l, last, n11, rfl, e11, hlast⟩), .one ⟨t, rfl⟩, ?_, ?_, by simp⟩
          · rw [hfold']; simp [sideStep, hec, ← hll, h3]
          · simp; lia  
        · refine kIf_f (by simp; lia  ) ?_
          refine sCons (sAppend (eSub (nameL V B8 (by rfl) (upd_of hms') (eUn (cInt fun t1 tk1 => iNeg fun t2 tk2 => ?_)))) V.quiet)
          refine item_last eD ?_
          refine ⟨l, last, nl, rfl, el, nameL V B8 (by rfl) upd_self ?_⟩
          refine append_own (pre := []) B8 (by rw [sizeLine_eq]; lia  ) fun h10 B10 => sNil (sNil (sNil ?_))
          refine ⟨h10, _, _, g8, l, pre, last ++ [.int c t], pxs, lxs ++ [c], rfl, hle.tr S8.le, upd_of hme', upd_of hms', B10, AllInts.mono S8.le hpre, hlast.app (.one ⟨t, rfl⟩), ?_, by lia  , ?_⟩
          · rw [hfold']; simp [sideStep, hec, ← hll, h3]
          · simp; lia  
end
end Mine
end
section
open PySem PySem.W PyProof.Rows
set_option maxRecDepth 100000
namespace Mine
noncomputable def IsNat (v : Value) (n : Nat) : Prop := ∃ t, v = .int (n : Int) t
theorem nats_ints {vs : List Value} {ns : List Nat} (h : All2 IsNat vs ns) : All2 IsInt vs (ns.map fun n : Nat => (n : Int)) := by
  induction h with
  | nil => exact .nil
  | cons a _ ih => obtain ⟨t, rfl⟩ := a; exact .cons ⟨t, rfl⟩ ih

theorem rs_up (n : Nat) : Builtin.Range.rangeSize 0 (n : Int) 1 = (n : Int) := by
  unfold Builtin.Range.rangeSize
  simp; intro h; lia  
theorem rs_down (n : Nat) : Builtin.Range.rangeSize (n : Int) (-1) (-1) = ((n + 1 : Nat) : Int) := by
  unfold Builtin.Range.rangeSize
  have : ((n : Int) > -1) := by lia  
  simp [this]

theorem It.rangeN {prog : Program} {w : World} {A : Around} {g : Heap} {I : Addr} (hh : A.handled = none) (n : Nat) : It prog w A g I n (fun i v => i < n ∧ IsNat v i) (rangeIt 0 1 n) :=
  have W := It.range (prog := prog) (w := w) (g := g) (I := I) hh 0 1 n
  ⟨fun i hp gs dr tk os Q E hi hg ho k => W.item i hp gs dr tk os Q E hi hg ho fun v h' tk' o hv => k v h' tk' o ⟨hi, by obtain ⟨t, rfl⟩ := hv; exact ⟨t, by simp⟩⟩, W.done, W.self⟩
/-- a function object of the persistent part that takes a list of small numbers to one -/
structure ListFn (w : World) (k : Nat) (g : Heap) (f : Value) (p : List Nat → List Nat) : Prop where
  obj : ∃ a o fd, f = .ref a ∧ g.get? a = some o ∧ o.data = .func fd
  go : ∀ (A : Around) (hp : Heap) (gs : Array GenState) (dr : Drawn) (tk : Nat) (os : OsState) (g1 : Heap) (v : Value) (l : List Nat) (Q : Value → Shared → Prop), Gl (KK w) hp → LE g g1 → LE g1 hp → Rm A k → IsL g1 IsNat v l → l.length ≤ 1000 →
    (∀ g' h' tk' v', Stp g1 hp g' h' → IsL g' IsNat v' (p l) → Q v' ⟨h', gs, dr, tk', os⟩) → Wp pg w A (call f [v]) Q ⟨hp, gs, dr, tk, os⟩

theorem pick_even (a b c d : Value) : (slicePick #[a, b, c, d] (some 0) none (some 2)).toList = [a, c] := by
  have hs : (#[a, b, c, d] : Array Value).size = 4 := rfl
  unfold slicePick
  rw [hs, show sliceRange (sliceBounds (some 0) none (some 2) 4).1 (sliceBounds (some 0) none (some 2) 4).2.1 (sliceBounds (some 0) none (some 2) 4).2.2 = [0, 2] by decide]
  rfl
theorem pick_odd (a b c d : Value) : (slicePick #[a, b, c, d] (some 1) none (some 2)).toList = [b, d] := by
  have hs : (#[a, b, c, d] : Array Value).size = 4 := rfl
  unfold slicePick
  rw [hs, show sliceRange (sliceBounds (some 1) none (some 2) 4).1 (sliceBounds (some 1) none (some 2) 4).2.1 (sliceBounds (some 1) none (some 2) 4).2.2 = [1, 3] by decide]
  rfl
inductive Uncons {α : Type} (R : Value → α → Prop) (vs : List Value) (S : List α) (n : Nat) : Prop
  | mk (v : Value) (vs' : List Value) (s : α) (S' : List α) (ev : vs = v :: vs') (es : S = s :: S') (r : R v s) (h : All2 R vs' S') (hn : S'.length = n)
theorem All2.uncons {α : Type} {R : Value → α → Prop} {vs : List Value} {S : List α} {n : Nat} (h : All2 R vs S) (hn : S.length = n + 1) : Uncons R vs S n := by
  cases h with
  | nil => cases hn
  | cons a r => exact ⟨_, _, _, _, rfl, rfl, a, r, Nat.succ.inj hn⟩
inductive Four {α : Type} (R : Value → α → Prop) (vs : List Value) (S : List α) : Prop
  | mk (a b c d : Value) (s t u v : α) (ev : vs = [a, b, c, d]) (es : S = [s, t, u, v]) (ha : R a s) (hb : R b t) (hc : R c u) (hd : R d v)
theorem All2.four {α : Type} {R : Value → α → Prop} {vs : List Value} {S : List α} (h4 : S.length = 4) (h : All2 R vs S) : Four R vs S := by
  obtain ⟨a, _, s, _, e1, f1, ha, h, n1⟩ := h.uncons h4
  obtain ⟨b, _, t, _, e2, f2, hb, h, n2⟩ := h.uncons n1
  obtain ⟨c, _, u, _, e3, f3, hc, h, n3⟩ := h.uncons n2
  obtain ⟨d, _, v, _, e4, f4, hd, h, n4⟩ := h.uncons n3
  cases h with
  | nil => exact ⟨a, b, c, d, s, t, u, v, by rw [e1, e2, e3, e4], by rw [f1, f2, f3, f4], ha, hb, hc, hd⟩
  | cons _ _ => cases n4
theorem pick_two {R : Value → List Int → Prop} {vs : List Value} {S : List (List Int)} (h4 : S.length = 4) (h : All2 R vs S) (y : Int) : All2 R (slicePick vs.toArray (some (y.fmod 2)) none (some 2)).toList (sidesFor S y) := by
  obtain ⟨a, b, c, d, s, t, u, v, rfl, rfl, ha, hb, hc, hd⟩ := h.four h4
  have f0 : 0 ≤ y.fmod 2 := Int.fmod_nonneg_of_pos y (by decide)
  have f2 : y.fmod 2 < 2 := Int.fmod_lt_of_pos y (by decide)
  unfold sidesFor
  by_cases e : y.fmod 2 = 0
  · rw [if_pos e, e, pick_even]; exact .cons ha (.one hc)
  · have e' : y.fmod 2 = 1 := by lia  
    rw [if_neg e, e', pick_odd]; exact .cons hb (.one hd)
noncomputable abbrev kDef2 (prog : Program) (w : World) (A : Around) (K : Frag) (a : Addr) (Q : Value → Shared → Prop) : List Value → Shared → Prop := fun vs s => Gl K s.heap ∧ Wp prog w A (call (.ref a) vs) Q s
noncomputable abbrev kDef (prog : Program) (w : World) (A : Around) (K : Frag) (a : Addr) (u : Sem (List Value)) (Q : Value → Shared → Prop) : Value → Shared → Prop := fun f s => f = .ref a ∧ Wp prog w A u (kDef2 prog w A K a Q) s
/-- a def of K is called by its name -/
theorem callDef {prog : Program} {w : World} {A : Around} {s : Shared} {env : Env} {x : Str} {pos np : Pos} {e : Expr} {rest : List Expr} {K : Frag} {a : Addr} {oc : Value} {od : Option Addr} {fd : FuncData} {osl : Array (Option Value)} {Q : Value → Shared → Prop} (hk : K.lookup a = some ⟨oc, od, .func fd, osl⟩)
    (h : Wp prog w A (eval (.Name x np) env) (kDef prog w A K a (spliced (backTo pos (starEach (e :: rest) env))) Q) s)
    (he : starEach (e :: rest) env = (false, eval e env) :: starEach rest env := by rfl) :
    Wp prog w A (eval (.Call (.Name x np) (e :: rest) [] pos) env) Q s :=
  callFn (o := ⟨oc, od, .func fd, osl⟩) (fd := fd) (h.mono fun _ _ q => ⟨q.1, q.2.mono fun _ _ r => ⟨⟨r.1.X _ _ hk, rfl⟩, r.2⟩⟩) he

noncomputable def nIs : List (Str × NameKind) := [("x", .local), ("NT_OFFSET", .globalImplicit)]
noncomputable def nDer : List (Str × NameKind) := [("sides", .cell), ("steps", .local), ("pick", .local), ("sentences", .local), ("forms", .local), ("left", .local), ("grown", .local), ("form", .cell), ("places", .local), ("NT_OFFSET", .globalImplicit), ("range", .globalImplicit), ("len", .globalImplicit)]
inductive J3a (gs : Array GenState) (dr : Drawn) (os : OsState) (g₅ : Heap) (pv : Value) (D : Addr) (sv : Value) (hp : Heap) (g : Heap) (L : Addr) (I : Addr) (p : List Nat → List Nat) (S : List (List Int)) (steps : Nat) (i : Nat) (s : Shared) : Prop
  | mk (h' : Heap) (tk' : Nat) (m' : Str → Option Value) (cm' : Str → Option Value) (g' : Heap) (F : Value) (outs : List Value)
    (q0 : s = ⟨h', gs, dr, tk', os⟩) (q1 : LE g₅ g') (q2 : m' "pick" = some pv) (q3 : m' "sentences" = some (.ref D)) (q4 : m' "forms" = some F) (q5 : cm' "sides" = some sv) (q6 : Bd hp g L (cellsFrom (L + 1) nDer []) m' cm' [(I, rangeIt steps (-1) (steps + 1) i), (D, isLst outs)] g' h') (q7 : LL g' F (lv S p steps i).2) (q8 : All2 (Ints g') outs (lv S p steps i).1)
inductive J3b (gs : Array GenState) (dr : Drawn) (os : OsState) (g' : Heap) (hp : Heap) (g : Heap) (pv : Value) (D : Addr) (Gr : Addr) (sv : Value) (L : Addr) (I : Addr) (I2 : Addr) (i : Nat) (fa : Addr) (steps : Nat) (left : Nat) (lt : Tok) (st : List (List Int)) (fs : List (List Int)) (S : List (List Int)) (p : List Nat → List Nat) (j : Nat) (s : Shared) : Prop
  | mk (h' : Heap) (tk' : Nat) (m2 : Str → Option Value) (cm2 : Str → Option Value) (g2 : Heap) (gv : List Value) (outs2 : List Value)
    (q0 : s = ⟨h', gs, dr, tk', os⟩) (q1 : LE g' g2) (q2 : m2 "pick" = some pv) (q3 : m2 "sentences" = some (.ref D)) (q4 : m2 "grown" = some (.ref Gr)) (q5 : m2 "left" = some (.int (left : Nat) lt)) (q6 : cm2 "sides" = some sv) (q7 : Bd hp g L (cellsFrom (L + 1) nDer []) m2 cm2 [(I2, listIt fa j), (Gr, isLst gv), (I, rangeIt steps (-1) (steps + 1) (i + 1)), (D, isLst outs2)] g2 h') (q8 : All2 (Ints g2) outs2 (st ++ (fs.take j).filter ended)) (q9 : All2 (Ints g2) gv ((fs.take j).flatMap (growOne S p left)))

section
variable {w : World} {A : Around} {hp : Heap} {gs : Array GenState} {dr : Drawn} {tk : Nat} {os : OsState} {g : Heap}
theorem nt_call {i : Int} {t : Tok} {Q : Value → Shared → Prop} (G : Gl (KK w) hp) (hg : LE g hp) (R : Rm A 0)
    (h : ∀ g' h' tk', Stp g hp g' h' → Q (.bool (nt i)) ⟨h', gs, dr, tk', os⟩) : Wp pg w A (call (.ref 35) [.int i t]) Q ⟨hp, gs, dr, tk, os⟩ := by
  refine enter (K := KK w) (fd := _) (names := nIs) (binds := [("x", .int i t)]) (nms := ["x"]) G hg R.room (by rfl) (by rfl) (by rfl) (by rfl) (by rfl) (by rfl) (by rfl) (by decide) ?_ (by rfl) (by rfl) ?_
  · intro L x hx
    rcases List.mem_singleton.mp hx with rfl
    exact .inl (by rfl)
  · intro env L cs m cm h₁ tk₁ V hcs hm _ B
    have hmx : m "x" = some (.int i t) := hm _ (.head _) (by rfl)
    obtain ⟨u, hu⟩ : ∃ u, nsIn (KK w) mainGlobals "NT_OFFSET" = some (some (.int 256 u)) := ⟨_, rfl⟩
    refine sCons (sRet (eCmp (nameL V B (by rfl) hmx (nameG V (G.mono B.kp) (by rfl) hu (iGe ?_)))))
    exact h _ _ _ B.exit

set_option maxHeartbeats 2000000 in
theorem derived_spec {sv pv : Value} {kt : Tok} {S : List (List Int)} {steps : Nat} {p : List Nat → List Nat} {k : Nat} {Q : Value → Shared → Prop} (G : Gl (KK w) hp) (hg : LE g hp) (R : Rm A (k + 1)) (hs : LL g sv S) (hpk : ListFn w k g pv p)
    (hpp : ∀ l, (p l).Sublist l) (h4 : S.length = 4) (h3 : ∀ s ∈ S, s.length ≤ 3) (h5 : steps ≤ 5)
    (h : ∀ g' h' tk' D outs n, Stp g hp g' h' → g'.get? D = none → hp.objs.size ≤ D → h'.get? D = some (lst outs n) → All2 (Ints g') outs (derived S p steps) → Q (.ref D) ⟨h', gs, dr, tk', os⟩) : Wp pg w A (call (.ref 190) [sv, .int (steps : Int) kt, pv]) Q ⟨hp, gs, dr, tk, os⟩ := by
  refine enter (K := KK w) (fd := _) (names := nDer) (binds := [("sides", sv), ("steps", .int steps kt), ("pick", pv)]) (nms := ["sides", "steps", "pick"]) G hg R.room (by rfl) (by rfl) (by rfl) (by rfl) (by rfl) (by rfl) (by rfl) (by decide) ?_ (by rfl) (by rfl) ?_
  · intro L x hx
    rcases List.mem_cons.mp hx with rfl | hx
    · exact .inr ⟨by rfl, by rfl⟩
    rcases List.mem_cons.mp hx with rfl | hx
    · exact .inl (by rfl)
    rcases List.mem_singleton.mp hx with rfl
    exact .inl (by rfl)
  · intro env L cs m cm h₁ tk₁ V hcs hm hcm B
    have R' : Rm (A.deeper env) k := R.deeper
    have hmk : m "steps" = some (.int steps kt) := hm _ (.tail _ (.head _)) (by rfl)
    have hmp : m "pick" = some pv := hm _ (.tail _ (.tail _ (.head _))) (by rfl)
    have hcsd : cm "sides" = some sv := hcm _ (.head _) (by rfl)
    subst hcs
    obtain ⟨u, hu⟩ : ∃ u, nsIn (KK w) mainGlobals "NT_OFFSET" = some (some (.int 256 u)) := ⟨_, rfl⟩
    -- sentences, forms = ([], [[NT_OFFSET]])
    refine sCons (sAssignSw (names := ["sentences", "forms"]) (dispT (argCons (dispO (argNil ⟨_, _, _, _, _, rfl, by decide, fun h₂ D e1 e2 => ?_⟩)))) (sw_two V (by rfl) (by rfl) (by rfl) (by rfl) (by rfl) (by rfl) (by rfl)))
    have B₂ := B.mk1 e1 e2
    refine argCons (dispP (argCons (dispP (argCons (nameG V (G.mono B₂.kp) (by rfl) hu (argNil ⟨_, _, _, _, _, _, rfl, B₂.le, by simp [sizeLine_eq], fun g₃ h₃ F₀ S₃ e₃ => ?_⟩))))))
    have B₃ := B₂.pure S₃
    refine argNil ⟨_, _, _, _, _, _, rfl, B₃.le, by simp [sizeLine_eq], fun g₄ h₄ F₁ S₄ e₄ => ?_⟩
    have B₄ := B₃.pure S₄
    refine argNil ⟨_, _, _, _, _, _, rfl, B₄.le, by simp [sizeLine_eq], fun g₅ h₅ T₅ S₅ e₅ => ?_⟩
    have B₅ := B₄.pure S₅
    refine unpackT R'.hh B₅ e₅ (by rfl) fun h₆ B₆ => ?_
    refine inOrder (bindN (storeL V B₆ (by rfl) fun h₇ tk₇ B₇ => ?_))
    refine inOrder (bindN (storeL V B₇ (by rfl) fun h₈ tk₈ B₈ => inOrder_nil ?_))
    -- the loop over left
    refine sCons (sFor (callTy (nameB V (G.mono B₈.kp) (by rfl) (by rfl) bb_range ⟨rfl, argCons (nameL V B₈ (by rfl) (upd_of (upd_of hmk)) (argCons (eUn (cInt fun t1 tk1 => iNeg fun t2 tk2 => ?_))))⟩)))
    refine argCons (eUn (cInt fun t3 tk3 => iNeg fun t4 tk4 => argNil ?_))
    refine range3 B₈ (by decide) (by decide) fun h₉ tk₉ r q1 q2 q3 hr B₉ => ?_
    refine iterR B₉ hr (small_of (by lia  ) (by lia  ) (.inr rfl)) (rs_down steps) fun h10 I B10 => ?_
    have W : It pg w (A.deeper env) g₅ I (steps + 1) (fun i v => ∃ t, v = .int ((steps : Int) + i * (-1)) t) (rangeIt steps (-1) (steps + 1)) := It.range R'.hh steps (-1) (steps + 1)
    refine for_loop (steps + 1) (J3a gs dr os g₅ pv D sv hp g L I p S steps) ?turn ?last
        ⟨_, _, _, _, g₅, _, [], rfl, LE.rfl', upd_of (upd_of hmp), upd_self, upd_of upd_self, hcsd, B10, ?init, .nil⟩
    case init =>
      exact ⟨F₁, _, _, rfl, S₅.le _ _ e₄, .one ⟨F₀, _, _, rfl, (S₄.le.tr S₅.le) _ _ e₃, .one ⟨_, rfl⟩⟩⟩
    case last =>
      rintro s ⟨h', tk', m', cm', g', F, outs, rfl, hle, hmp', hms', hmf', hcs', B', hF, hO⟩
      refine lastI (pre := []) W hle B' fun h11 tk11 B11 => ⟨rfl, _, rfl, ?_⟩
      refine sCons (sRet (nameL V B11 (by rfl) hms' ?_))
      obtain ⟨⟨o, e12, ⟨n, rfl⟩⟩, n12, z12, _⟩ := B11.has (D, isLst outs) (by first | exact .head _ | exact .tail _ (.head _) | exact .tail _ (.tail _ (.head _)) | exact .tail _ (.tail _ (.tail _ (.head _))) | exact .tail _ (.tail _ (.tail _ (.tail _ (.head _)))) | exact .tail _ (.tail _ (.tail _ (.tail _ (.tail _ (.head _))))))
      exact h g' h11 tk11 D outs n B11.exit n12 z12 e12 hO
    case turn =>
      rintro i s hi ⟨h', tk', m', cm', g', F, outs, rfl, hle, hmp', hms', hmf', hcs', B', hF, hO⟩
      refine stepI (pre := []) W hle B' hi fun v h11 tk11 hv11 B11 => ⟨v, rfl, ?_⟩
      obtain ⟨lt, rfl⟩ := hv11
      obtain ⟨b1, b2, b3⟩ := lv_bound (S := S) hpp h3 h5 i
      have hpow : 10 ^ i ≤ 10 ^ 5 := Nat.pow_le_pow_right (by decide) (by lia  )
      have hleft : (steps : Int) + (i : Int) * (-1) = ((steps - i : Nat) : Int) := by lia  
      rw [hleft]
      generalize hfs : (lv S p steps i).2 = fs at hF b2 b3
      generalize hst : (lv S p steps i).1 = st at hO b1
      have hnext : lv S p steps (i + 1) = (st ++ fs.filter ended, fs.flatMap (growOne S p (steps - i))) := by rw [← hfs, ← hst]; rfl
      have hli : steps - i ≤ 5 := by lia  
      generalize steps - i = left at hnext hli ⊢
      refine letGo_name (assignL V B11 (by rfl) fun h12 tk12 B12 => ?_)
      -- grown = []
      refine sCons (sAssign (dispO (argNil ⟨_, _, _, _, _, rfl, by decide, fun h13 Gr e1 e2 => ?_⟩)))
      refine storeL V (B12.mk1 e1 e2) (by rfl) fun h14 tk14 B14 => ?_
      obtain ⟨fa, fvs, fn, rfl, efa, hfall⟩ := hF
      have hfl := hfall.len
      -- for form in forms
      refine sCons (sFor (nameL V B14 (by rfl) (upd_of (upd_of hmf')) (iterL B14 efa fun h15 I2 B15 => ?_)))
      have W2 : It pg w (A.deeper env) g' I2 fvs.length (fun i v => fvs[i]? = some v) (listIt fa) := It.list R'.hh efa
      refine for_loop fvs.length (J3b gs dr os g' hp g pv D Gr sv L I I2 i fa steps left lt st fs S p) ?turn2 ?last2
          ⟨_, _, _, _, g', [], outs, rfl, LE.rfl', upd_of (upd_of hmp'), upd_of (upd_of hms'), upd_self, upd_of upd_self, hcs', B15, by simpa using hO, .nil⟩
      case last2 =>
        rintro s ⟨h', tk', m2, cm2, g2, gv, outs2, rfl, hle2, hmp2, hms2, hmg2, hml2, hcs2, B2, hO2, hG2⟩
        refine lastI (pre := []) W2 hle2 B2 fun h16 tk16 B16 => ⟨rfl, _, rfl, ?_⟩
        refine sCons (sAssign (nameL V B16 (by rfl) hmg2 (storeL V B16 (by rfl) fun h17 tk17 B17 => sNil ?_)))
        obtain ⟨g18, o, B18, l18, e18, ⟨n, rfl⟩, _⟩ := B17.freeze (pre := [])
        rw [hfl, List.take_length] at hO2 hG2
        refine ⟨_, _, _, _, g18, .ref Gr, outs2, rfl, (hle.tr hle2).tr l18, upd_of hmp2, upd_of hms2, upd_self, hcs2, B18, ?_, ?_⟩
        · rw [hnext]; exact ⟨Gr, gv, n, rfl, e18, AllInts.mono l18 hG2⟩
        · rw [hnext]; exact AllInts.mono l18 hO2
      case turn2 =>
        rintro j s hj ⟨h', tk', m2, cm2, g2, gv, outs2, rfl, hle2, hmp2, hms2, hmg2, hml2, hcs2, B2, hO2, hG2⟩
        refine stepI (pre := []) W2 hle2 B2 hj fun v h16 tk16 hv16 B16 => ⟨v, rfl, ?_⟩
        obtain ⟨f, hf, hfv⟩ := hfall.get hv16
        have hfmem : f ∈ fs := List.mem_of_getElem? hf
        have hflen := b3 f hfmem
        have hfj : fs.take (j + 1) = fs.take j ++ [f] := by rw [List.take_add_one, hf]; rfl
        have hOl := hO2.len
        have hGl := hG2.len
        have hOb : outs2.length ≤ 200000 := by
          rw [hOl, List.length_append]
          have := List.length_filter_le ended (fs.take j)
          have := List.length_take_le j fs
          lia  
        have hGb : gv.length ≤ 1000000 := by
          rw [hGl]
          have := flatMap_le (growOne S p left) 10 (fs.take j) fun f _ => by have := growOne_len (S := S) hpp (left := left) f; lia  
          have := List.length_take_le j fs
          lia  
        refine letGo_name (assignC V B16 (by rfl) (c := L + 2) (by rfl) fun h17 B17 => ?_)
        obtain ⟨c, fv, fvn, rfl, ec, hfi⟩ := hfv
        have hfvl := hfi.len
        have ec2 := hle2 _ _ ec
        -- places = [..]
        refine sCons (comp_assign (cl := [("form", L + 2)]) V (by rfl) (swaps_lc V (by rfl) (by rfl)) (closure_of V.cl (by rfl)) (by decide) (by rfl) (by decide) (callTy (nameB V (G.mono B17.kp) (by rfl) (by rfl) bb_range ⟨rfl, arg1 (callBu (nameB V (G.mono B17.kp) (by rfl) (by rfl) bb_len ⟨rfl, arg1 (nameCB V B17 (by rfl) (by rfl) upd_self ?_)⟩))⟩)))
        refine lenL (isList_of (B17.le _ _ ec2)) (by simp; lia  ) fun t5 tk5 => ?_
        refine range1 B17 fun h18 tk18 r z1 z2 z3 hr18 B18 => ?_
        refine ⟨h18, _, _, _, _, g2, _, fun out gg => All2 IsNat out (placesN f), hp, g, _, _, _, _, rfl, B18, Ready.range hr18 (small_of (by lia  ) (by simp; lia  ) (.inl rfl)) (rs_up fv.length), fun out a b l h => h, fun C D₁ I₁ h19 tk19 hI B19 => ?_, fun g20 h20 tk20 D₂ out n B20 l20 e20 hout => ?_⟩
        · have hc18 : h18.IsCell (L + 2) (some (.ref c)) := cell_upd (B18.cell "form" (L + 2) (by rfl)) (by rfl)
          have V1 := V.comp (C := C) (cl := [("form", L + 2)]) (scope := { kind := .function, names := [(".0", .local), ("k", .local), ("ISNONTERMINAL", .globalImplicit), ("form", .free)], isGenerator := false, isCoroutine := false }) (by rfl)
          refine compL (out₀ := []) (rest := []) (d := 0) (xs := List.range fv.length) (by rfl) (.inl (by rfl)) (It.rangeN R'.hh fv.length) LE.rfl' (by simp) IsNat (fun i v hv => ⟨i, by simp [hv.1], hv.2⟩) (fun _ => True) (fun _ v y => IsNat v y) (fun a b v y l h => h) (fun y : Nat => if nt (f.getD y 0) then [y] else []) ?_ trivial (B19.weaken (pre := [(D₁, isLst [])]) (q := rangeIt 0 1 fv.length 0) ?_) ?_
          · intro i' v x m' ys g' h20 tk20 hx hv l _ hys B20
            obtain ⟨t, rfl⟩ := hv
            have hxl : x < fv.length := by have := List.mem_of_getElem? hx; simpa using this
            obtain ⟨y, hy, yt, rfl⟩ := hfi.get' (List.getElem?_eq_getElem (hfvl ▸ hxl))
            refine letGo_name (assignL V1 B20 (by rfl) fun h21 tk21 B21 => tests_one (tVal (callDef (K := KK w) (a := 35) (by rfl) (nameG V1 (G.mono (B18.kp.tr B21.kp)) (by rfl) (by rfl) ⟨rfl, arg1 (eSub (nameC V1 (by rfl) (by rfl) (hc18.keeps B21.kp) (nameL V1 B21 (by rfl) upd_self ?_)))⟩))))
            refine item_at (isList_of (l.tr B21.le _ _ ec2)) (by lia  ) (by lia  ) (by simpa using hy) ?_
            refine ⟨G.mono (B18.kp.tr B21.kp), nt_call (G.mono (B18.kp.tr B21.kp)) B21.le (R'.less (Nat.zero_le _)) fun g22 h22 tk22 S22 => truB ?_⟩
            have B22 := B21.pure S22
            have hgd : f.getD x 0 = f[x]'(hfvl ▸ hxl) := by rw [List.getD_eq_getElem?_getD, List.getElem?_eq_getElem (hfvl ▸ hxl)]; rfl
            have hyl := hys.len
            rw [fm_if] at hyl
            have hfl2 := List.length_filter_le (fun y => nt (f.getD y 0)) ((List.range fv.length).take i')
            have hfl3 : ((List.range fv.length).take i').length ≤ fv.length := by rw [List.length_take, List.length_range]; lia  
            rw [hgd]
            cases hpc : nt (f[x]'(hfvl ▸ hxl)) with
            | true =>
              rw [if_pos rfl]
              refine emit_one (nameL V1 B22 (by rfl) upd_self ⟨_, _, _, _, rfl, S22.le, trivial, B22, ⟨t, rfl⟩⟩) ?_
              show ([] ++ ys).length ≤ _
              rw [List.nil_append, sizeLine_eq]; lia  
            | false =>
              rw [if_neg (by simp)]
              exact turned_nil S22.le trivial B22
          · rintro o rfl; exact rangeIt_zero
          · intro h' tk' m' g' ys l _ B' hy
            exact ⟨_, h', tk', m', ys, [], g', rfl, rfl, B', by rw [fm_if] at hy; rw [placesN, ← hfvl]; exact hy⟩
        · -- if places == []
          have hOl2 := hout.len
          have hpl : (placesN f).length ≤ f.length := by unfold placesN; refine Nat.le_trans (List.length_filter_le _ _) (by simp)
          have G20 := G.mono B20.kp
          refine sCons (sIf (tCmp (nameL V B20 (by rfl) upd_self (dispP (argNil ⟨_, _, _, _, _, _, rfl, B20.le, by simp, fun g21 h21 E₁ S21 e21 => ?_⟩)))))
          have B21 := B20.pure S21
          refine eqInts (S21.le' _ _ (S21.le _ _ e20)) (S21.le' _ _ e21) (nats_ints hout) .nil R'.u64 (truB ?_)
          have le21 : LE g' g21 := hle2.tr (l20.tr S21.le)
          by_cases hp0 : placesN f = []
          · refine kIf_t (by simpa using hp0) ?_
            obtain ⟨nD, eD⟩ := B21.atL (a := D) (vs := outs2) (by first | exact .head _ | exact .tail _ (.head _) | exact .tail _ (.tail _ (.head _)) | exact .tail _ (.tail _ (.tail _ (.head _))) | exact .tail _ (.tail _ (.tail _ (.tail _ (.head _)))) | exact .tail _ (.tail _ (.tail _ (.tail _ (.tail _ (.head _))))))
            refine sCons (sAppend (nameL V B21 (by rfl) (upd_of hms2) ⟨D, outs2, nD, rfl, eD, nameCB V B21 (by rfl) (by rfl) upd_self ?_⟩) V.quiet)
            refine append_own (pre := [(I2, listIt fa (j + 1)), (Gr, isLst gv), (I, rangeIt steps (-1) (steps + 1) (i + 1))]) B21 (by rw [sizeLine_eq]; lia  ) fun h22 B22 => sNil (sNil ?_)
            refine ⟨_, _, _, _, g21, gv, outs2 ++ [.ref c], rfl, le21, upd_of hmp2, upd_of hms2, upd_of hmg2, upd_of hml2, upd_of hcs2, B22, ?_, ?_⟩
            · rw [hfj, List.filter_append, ← List.append_assoc]
              refine (AllInts.mono (l20.tr S21.le) hO2).app ?_
              rw [List.filter_cons_of_pos (by simp [ended, hp0]), List.filter_nil]
              exact .one ⟨c, fv, fvn, rfl, le21 _ _ ec, hfi⟩
            · rw [hfj, List.flatMap_append]
              have : [f].flatMap (growOne S p left) = [] := by simp [growOne, hp0]
              rw [this, List.append_nil]
              exact AllInts.mono (l20.tr S21.le) hG2
          · refine kIf_f (by simpa using hp0) ?_
            have hend : (fs.take (j + 1)).filter ended = (fs.take j).filter ended := by
              rw [hfj, List.filter_append, List.filter_cons_of_neg (by simp [ended, hp0]), List.filter_nil, List.append_nil]
            -- elif len(places) <= left
            refine sCons (sIf (tCmp (callBu (nameB V (G.mono B21.kp) (by rfl) (by rfl) bb_len ⟨rfl, arg1 (nameL V B21 (by rfl) upd_self (lenL (isList_of (S21.le' _ _ (S21.le _ _ e20))) (by simp; lia  ) fun t6 tk6 => nameL V B21 (by rfl) (upd_of hml2) (iLe (truB ?_))))⟩))))
            by_cases hle6 : (placesN f).length ≤ left
            · refine kIf_t (by simp; lia  ) ?_
              have hgrow : growOne S p left f = expand S p f := by unfold growOne; rw [if_neg hp0, if_pos hle6]
              have hexl := expand_len (S := S) hpp f
              obtain ⟨nG, eG⟩ := B21.atL (a := Gr) (vs := gv) (by first | exact .head _ | exact .tail _ (.head _) | exact .tail _ (.tail _ (.head _)) | exact .tail _ (.tail _ (.tail _ (.head _))) | exact .tail _ (.tail _ (.tail _ (.tail _ (.head _)))) | exact .tail _ (.tail _ (.tail _ (.tail _ (.tail _ (.head _))))))
              refine sCons (sMeth1 PySem.F.slot_list_extend PySem.F.type_list_extend PySem.F.plainAttrs_list (nameL V B21 (by rfl) (upd_of hmg2) ⟨Gr, gv, nG, rfl, eG, ?_⟩) V.quiet)
              obtain ⟨pa, po, pfd, rfl, epo, hpd⟩ := hpk.obj
              refine comp_eval (cl := [("sides", L + 1), ("form", L + 2)]) (closure_of V.cl (by rfl)) (by decide) (by rfl) (by decide) (callFn (nameL V B21 (by rfl) (upd_of hmp2) ⟨rfl, arg1 (nameL V B21 (by rfl) upd_self ⟨⟨B21.le _ _ (B21.ge _ _ epo), hpd⟩, ?_⟩)⟩))
              refine hpk.go _ _ _ _ _ _ g21 _ (placesN f) _ (G.mono B21.kp) B21.ge B21.le R' ⟨D₂, out, n, rfl, S21.le _ _ e20, hout⟩ (by lia  ) fun g22 h22 tk22 pv' S22 hpv => ?_
              have B22 := B21.pure S22
              obtain ⟨pc, pvs, pn, rfl, epc, hpn⟩ := hpv
              obtain ⟨sa, svs, sn, rfl, es, hsall⟩ := hs
              have hsl := hsall.len
              refine ⟨h22, _, _, _, _, g22, _, fun out gg => All2 (Ints gg) out (expand S p f), rfl, B22.le, Ready.list B22.le epc, fun out a b l h => AllInts.mono l h, fun C D₃ I₃ h23 tk23 hI3 B23 => ?_, fun g24 h24 tk24 D₄ out4 n4 S24 e24 hout4 => ?_⟩
              · have hcf : h22.IsCell (L + 2) (some (.ref c)) := cell_upd (B22.cell "form" (L + 2) (by rfl)) (by rfl)
                have hcs : h22.IsCell (L + 1) (some (.ref sa)) := cell_updo (B22.cell "sides" (L + 1) (by rfl)) hcs2
                have V1 := V.comp (C := C) (cl := [("sides", L + 1), ("form", L + 2)]) (scope := { kind := .function, names := [(".0", .local), ("k", .local), ("side", .local), ("form", .free), ("sides", .free)], isGenerator := false, isCoroutine := false }) (by rfl)
                refine compL (out₀ := []) (rest := []) (d := 0) (xs := p (placesN f)) (by rfl) (.inr ⟨_, _, _, rfl⟩) (It.list R'.hh epc) LE.rfl' hpn.len IsNat (fun i v hv => hpn.get hv) (fun _ => True) (fun gg v y => Ints gg v y) (fun a b v y l h => IsL.mono l h) (fun x : Nat => (sidesFor S (f.getD x 0)).map fun s => subst f x s) ?_ trivial (B23.weaken (pre := [(D₃, isLst [])]) (q := listIt pc 0) ?_) ?_
                · intro i' v x m' ys g' h24 tk24 hx hv l _ hys B24
                  obtain ⟨t, rfl⟩ := hv
                  have hxl := places_lt ((hpp _).subset (List.mem_of_getElem? hx))
                  obtain ⟨y, hy, yt, rfl⟩ := hfi.get' (List.getElem?_eq_getElem hxl)
                  have hgd : f.getD x 0 = f[x] := by rw [List.getD_eq_getElem?_getD, List.getElem?_eq_getElem hxl]; rfl
                  have hyl := hys.len
                  have hyb : ys.length ≤ 1000 := by
                    have hb := flatMap_le (fun x : Nat => (sidesFor S (f.getD x 0)).map fun s => subst f x s) 2 ((p (placesN f)).take i') fun k _ => by rw [List.length_map, sidesFor_len]; exact Nat.le_refl _
                    have hb2 : ((p (placesN f)).take i').length ≤ (p (placesN f)).length := by rw [List.length_take]; lia  
                    have hb3 := (hpp (placesN f)).length_le
                    lia  
                  refine letGo_name (assignL V1 B24 (by rfl) fun h25 tk25 B25 => tests_nil ?_)
                  refine inner_nest (by rfl) (eSlice (nameC V1 (by rfl) (by rfl) (hcs.keeps B25.kp) (pSome (eBin (eSub (nameC V1 (by rfl) (by rfl) (hcf.keeps B25.kp) (nameL V1 B25 (by rfl) upd_self ?_)))))))
                  refine item_at (isList_of (B25.le _ _ (l _ _ (S22.le _ _ (le21 _ _ ec))))) (by lia  ) (by lia  ) (by simpa using hy) ?_
                  refine cInt fun t7 tk7 => iMod (by decide) fun t8 tk8 => pNone (pSome (cInt fun t9 tk9 => ⟨_, _, _, _, _, rfl, ?_⟩))
                  refine slice_tail (g := g') B25.le (isList_of (B25.le _ _ (l _ _ (S22.le _ _ (B21.ge _ _ es))))) (.int _ _) .none (.int 2 t9) (by decide) (by simp [sizeLine_eq]; lia  ) fun g26 h26 c26 S26 e26 => ?_
                  have B26 := B25.pure S26
                  have hsd := AllInts.mono (B22.ge.tr B26.ge) (pick_two h4 hsall f[x])
                  generalize (slicePick svs.toArray (some (f[x].fmod 2)) none (some 2)).toList = sdv at e26 hsd
                  refine iterL B26 e26 fun h27 I27 B27 => ⟨?_, fun Q' E hq => ?_⟩
                  · have hsdl := hsd.len
                    have hs2 := sidesFor_len S f[x]
                    refine compL (out₀ := [] ++ ys) (rest := [(I₃, listIt pc (i' + 1))]) (d := 1) (xs := sidesFor S f[x]) (by rfl) (.inl (by rfl)) (It.list R'.hh e26) LE.rfl' hsd.len (Ints g26) (fun i v hv => hsd.get hv) (fun m => m "k" = some (.int (x : Nat) t)) (fun gg v y => Ints gg v y) (fun a b v y l h => IsL.mono l h) (fun s => [subst f x s]) ?_ upd_self (B27.perm (.swap ..)) ?_
                    · intro i2 v2 sd m2' zs g28 h28 tk28 hsx hsv l28 hk28 hzs B28
                      obtain ⟨ca, cvs, cn, rfl, ecv, hci⟩ := hsv
                      have hcl := hci.len
                      have hs3 := sidesFor_mem (List.mem_of_getElem? hsx) h3
                      have hzl := hzs.len
                      have hzb : zs.length ≤ 2 := by rw [hzl, fm_one, List.length_map, List.length_take]; lia  
                      refine letGo_name (assignL V1 B28 (by rfl) fun h29 tk29 B29 => tests_nil ?_)
                      have ecf := l28 _ _ (S26.le _ _ (l _ _ (S22.le _ _ (le21 _ _ ec))))
                      have hk26 := B26.kp
                      have hkk := hcf.keeps B29.kp
                      refine emit_one (eBin (eBin (eSlice (nameC V1 (by rfl) (by rfl) hkk (pNone (pSome (nameL V1 B29 (by rfl) (upd_of hk28) (pNone ⟨_, _, _, _, _, rfl, ?_⟩)))))))) (by simp; rw [sizeLine_eq]; lia  )
                      refine slice_tail (g := g28) B29.le (isList_of (B29.le _ _ ecf)) .none (.int _ t) .none (by decide) (by simp [sizeLine_eq]; lia  ) fun g30 h30 c30 S30 e30 => ?_
                      have B30 := B29.pure S30
                      rw [pick_upto fv x] at e30
                      refine nameL V1 B30 (by rfl) upd_self (list_add (g := g30) B30.le e30 (S30.le _ _ (l28 _ _ ecv)) (by rw [List.length_take, sizeLine_eq]; lia  ) fun g31 h31 c31 S31 e31 => ?_)
                      have B31 := B30.pure S31
                      refine eSlice (nameC V1 (by rfl) (by rfl) (hcf.keeps B31.kp) (pSome (eBin (nameL V1 B31 (by rfl) (upd_of hk28) (cInt fun t10 tk10 => iAdd fun t11 tk11 => pNone (pNone ⟨_, _, _, _, _, rfl, ?_⟩))))))
                      refine slice_tail (g := g31) B31.le (isList_of (B31.le _ _ (S31.le _ _ (S30.le _ _ ecf)))) (.int _ t11) .none .none (by decide) (by simp [sizeLine_eq]; lia  ) fun g32 h32 c32 S32 e32 => ?_
                      have B32 := B31.pure S32
                      rw [show ((x : Int) + 1) = ((x + 1 : Nat) : Int) by lia  , pick_from fv (x + 1)] at e32
                      refine list_add (g := g32) B32.le (S32.le _ _ e31) e32 (by rw [List.length_append, List.length_take, List.length_drop, sizeLine_eq]; lia  ) fun g33 h33 c33 S33 e33 => ?_
                      exact ⟨h33, _, _, g33, rfl, ((S30.le.tr S31.le).tr S32.le).tr S33.le, upd_of hk28, B32.pure S33, ⟨c33, _, _, rfl, e33, ((hfi.take x).app hci).app (hfi.drop (x + 1))⟩⟩
                    · intro h' tk' m5 g5 zs l5 _ B5 hz
                      refine ⟨.next, rfl, h', tk', m5, g5, zs, rfl, S26.le.tr l5, trivial, B5, ?_⟩
                      rw [fm_one] at hz
                      rw [hgd]; exact hz
                  · obtain ⟨o, eo, hc, hd⟩ := B27.at (a := I27) (p := listIt c26 0) (by first | exact .head _ | exact .tail _ (.head _) | exact .tail _ (.tail _ (.head _)) | exact .tail _ (.tail _ (.tail _ (.head _))) | exact .tail _ (.tail _ (.tail _ (.tail _ (.head _)))) | exact .tail _ (.tail _ (.tail _ (.tail _ (.tail _ (.head _))))))
                    exact wpAny_pyIter_listiter (i := 0) ⟨o, eo, hc, hd⟩ hq
                · rintro o rfl; exact ⟨rfl, rfl⟩
                · intro h' tk' m' g' ys l _ B' hy
                  exact ⟨_, h', tk', m', ys, [], g', rfl, rfl, B', hy⟩
              · refine extend_own (pre := [(I2, listIt fa (j + 1))]) (B22.pure S24) e24 (by have := hout4.len; rw [sizeLine_eq]; lia  ) fun h25 tk25 B25 => sNil (sNil (sNil ?_))
                refine ⟨_, _, _, _, g24, gv ++ out4, outs2, rfl, (le21.tr S22.le).tr S24.le, upd_of hmp2, upd_of hms2, upd_of hmg2, upd_of hml2, upd_of hcs2, B25, ?_, ?_⟩
                · rw [hend]; exact AllInts.mono (((l20.tr S21.le).tr S22.le).tr S24.le) hO2
                · rw [hfj, List.flatMap_append]
                  have : [f].flatMap (growOne S p left) = expand S p f := by simp [hgrow]
                  rw [this]
                  exact (AllInts.mono (((l20.tr S21.le).tr S22.le).tr S24.le) hG2).app hout4
            · refine kIf_f (by simp; lia  ) ?_
              refine sNil (sNil (sNil ?_))
              refine ⟨_, _, _, _, g21, gv, outs2, rfl, le21, upd_of hmp2, upd_of hms2, upd_of hmg2, upd_of hml2, upd_of hcs2, B21, ?_, ?_⟩
              · rw [hend]; exact AllInts.mono (l20.tr S21.le) hO2
              · rw [hfj, List.flatMap_append]
                have : [f].flatMap (growOne S p left) = [] := by simp [growOne, hp0, hle6]
                rw [this, List.append_nil]
                exact AllInts.mono (l20.tr S21.le) hG2
end
end Mine
end
section
open PySem PySem.W PyProof.Rows
set_option maxRecDepth 100000
namespace Mine
inductive IsTr (g : Heap) (v : Value) (t : Tr) : Prop
  | mk (a : Addr) (va vb vc : Value) (n : Nat) (e : v = .ref a) (o : g.get? a = some (tup [va, vb, vc] n)) (q1 : Ints g va t.1) (q2 : IsNat vb t.2.1) (q3 : IsNat vc t.2.2)
theorem IsTr.mono {g g' : Heap} {v : Value} {t : Tr} (l : LE g g') (h : IsTr g v t) : IsTr g' v t := by
  obtain ⟨a, va, vb, vc, n, e, o, r, s, z⟩ := h
  exact ⟨a, va, vb, vc, n, e, l _ _ o, IsL.mono l r, s, z⟩
noncomputable abbrev LT (g : Heap) : Value → List Tr → Prop := IsL g (IsTr g)
theorem LT.mono {g g' : Heap} {v : Value} {l : List Tr} (k : LE g g') (h : LT g v l) : LT g' v l := (IsL.mono k h).imp fun _ _ => IsTr.mono k
theorem AllTr.mono {g g' : Heap} {vs : List Value} {xs : List Tr} (k : LE g g') (h : All2 (IsTr g) vs xs) : All2 (IsTr g') vs xs := h.imp fun _ _ => IsTr.mono k

section
variable {prog : Program} {w : World} {A : Around} {s : Shared} {hp : Heap} {gs : Array GenState} {dr : Drawn} {tk : Nat} {os : OsState} {env : Env} {names : List (Str × NameKind)} {h₀ g₀ g : Heap} {L : Addr} {cs cs' : List (Str × Addr)} {m cm : Str → Option Value} {own pre post : List (Addr × (Obj → Prop))}
theorem letGo_tup {elts : List Expr} {x1 : Nat} {pos : Pos} {I l T : Addr} {i : Nat} {Q : Unit → Shared → Prop} (B : Bd h₀ g₀ L cs m cm (pre ++ (I, listIt l i) :: post) g hp) (h : Q () ⟨hp, gs, dr, tk, os⟩) :
    Wp prog w A (letOwnedTupleGo (.Tuple elts x1 pos) (.ref I) (.ref T)) Q ⟨hp, gs, dr, tk, os⟩ := by
  obtain ⟨o, e, hc, hd⟩ := B.at (a := I) (p := listIt l i) (List.mem_append_right _ (.head _))
  exact ⟨wpAny_letOwnedTupleGo_listiter (i := i) ⟨o, e, hc, hd⟩ h⟩
theorem assign3 {x y z : Str} {p1 p2 p3 pos : Pos} {k : Nat} {a b c : Value} {t : Addr} {n : Nat} {Q : Unit → Shared → Prop} (hh : A.handled = none) (V : Ev env names L cs') (B : Bd h₀ g₀ L cs m cm own g hp) (ht : g.get? t = some (tup [a, b, c] n))
    (hx : names.lookup x = some .local) (hy : names.lookup y = some .local) (hz : names.lookup z = some .local)
    (h : ∀ h' tk', Bd h₀ g₀ L cs (upd (upd (upd m x a) y b) z c) cm own g h' → Q () ⟨h', gs, dr, tk', os⟩) : Wp prog w A (assign (.Tuple [.Name x p1, .Name y p2, .Name z p3] k pos) env (.ref t)) Q ⟨hp, gs, dr, tk, os⟩ := by
  refine assignTup hh B ht fun h1 B1 => ?_
  refine inOrder (t := assign (.Name x p1) env) (ts := [assign (.Name y p2) env, assign (.Name z p3) env]) (assignL V B1 hx fun h2 tk2 B2 => ?_)
  refine inOrder (assignL V B2 hy fun h3 tk3 B3 => ?_)
  refine inOrder (assignL V B3 hz fun h4 tk4 B4 => inOrder_nil (h _ _ B4))
end
theorem mul_ok {a b : Nat} (h : a < 2 ^ 64) : IntMulOk (a : Int) (b : Int) := IntMulOk.of_left (intBits_le_iff.mpr (by simpa using h))

noncomputable def nTrees : List (Str × NameKind) := [("sides", .cell), ("row", .local), ("room", .cell), ("found", .local), ("sign", .cell)]
inductive J4 (gs : Array GenState) (dr : Drawn) (os : OsState) (g4 : Heap) (hp : Heap) (g : Heap) (L : Addr) (I : Addr) (ra : Addr) (sv : Value) (ri : Int) (rt : Tok) (row : List Int) (S : List (List Int)) (n : Nat) (r : Nat) (i : Nat) (s : Shared) : Prop
  | mk (h' : Heap) (tk' : Nat) (m' : Str → Option Value) (cm' : Str → Option Value) (g' : Heap) (F : Value)
    (q0 : s = ⟨h', gs, dr, tk', os⟩) (q1 : LE g4 g') (q2 : m' "found" = some F) (q3 : cm' "sides" = some sv) (q4 : cm' "room" = some (.int ri rt)) (q5 : Bd hp g L (cellsFrom (L + 1) nTrees []) m' cm' [(I, listIt ra i)] g' h') (q6 : LT g' F ((row.take i).foldl (signStep S (treesR S n) r) [([], 0, 1)]))

section
variable {w : World} {A : Around} {hp : Heap} {gs : Array GenState} {dr : Drawn} {tk : Nat} {os : OsState} {g : Heap}
theorem trees_zero {sv rv : Value} {t : Tok} {Q : Value → Shared → Prop} (G : Gl (KK w) hp) (hg : LE g hp) (R : Rm A 0)
    (h : ∀ g' h' tk' v, Stp g hp g' h' → LT g' v [] → Q v ⟨h', gs, dr, tk', os⟩) : Wp pg w A (call (.ref 195) [sv, rv, .int (-1) t]) Q ⟨hp, gs, dr, tk, os⟩ := by
  refine enter (K := KK w) (fd := _) (names := nTrees) (binds := [("sides", sv), ("row", rv), ("room", .int (-1) t)]) (nms := ["sides", "row", "room"]) G hg R.room (by rfl) (by rfl) (by rfl) (by rfl) (by rfl) (by rfl) (by rfl) (by decide) ?_ (by rfl) (by rfl) ?_
  · intro L x hx
    rcases List.mem_cons.mp hx with rfl | hx
    · exact .inr ⟨by rfl, by rfl⟩
    rcases List.mem_cons.mp hx with rfl | hx
    · exact .inl (by rfl)
    rcases List.mem_singleton.mp hx with rfl
    exact .inr ⟨by rfl, by rfl⟩
  · intro env L cs m cm h₁ tk₁ V hcs hm hcm B
    have hcr : cm "room" = some (.int (-1) t) := hcm _ (.tail _ (.tail _ (.head _))) (by rfl)
    subst hcs
    refine sCons (sIf (tCmp (nameCB V B (by rfl) (by rfl) hcr (cInt fun t1 tk1 => iLt (truB ?_)))))
    refine kIf_t (by decide) ?_
    refine sCons (sRet (dispP (argNil ⟨_, _, _, _, _, _, rfl, B.le, by simp, fun g2 h2 a S2 e2 => ?_⟩)))
    exact h g2 h2 _ _ (B.pure S2).exit ⟨a, [], 0, rfl, e2, .nil⟩

noncomputable def TreesSpec (w : World) (S : List (List Int)) (n : Nat) : Prop :=
  ∀ (A : Around) (hp : Heap) (gs : Array GenState) (dr : Drawn) (tk : Nat) (os : OsState) (g : Heap) (sv rv : Value) (row : List Int) (r : Nat) (i : Int) (t : Tok) (Q : Value → Shared → Prop), Gl (KK w) hp → LE g hp → Rm A (n + 1) → LL g sv S → Ints g rv row → row.length ≤ 3 → r ≤ n → r ≤ 6 → i = (r : Int) - 1 →
    (∀ g' h' tk' v, Stp g hp g' h' → LT g' v (treesR S n row r) → Q v ⟨h', gs, dr, tk', os⟩) → Wp pg w A (call (.ref 195) [sv, rv, .int i t]) Q ⟨hp, gs, dr, tk, os⟩

set_option maxHeartbeats 2000000 in
theorem trees_step {S : List (List Int)} {n : Nat} (h4 : S.length = 4) (h3 : ∀ s ∈ S, s.length ≤ 3) (ih : TreesSpec w S n) : TreesSpec w S (n + 1) := by
  intro A hp gs dr tk os g sv rv row r ri rt Q G hg R hs hr hrl hrn h6 hri h
  by_cases hr0 : r = 0
  · subst hr0
    obtain rfl : ri = -1 := by lia  
    exact trees_zero G hg (R.less (Nat.zero_le _)) h
  obtain ⟨ra, rvs, rn, rfl, er, hri2⟩ := hr
  refine enter (K := KK w) (fd := _) (names := nTrees) (binds := [("sides", sv), ("row", .ref ra), ("room", .int ri rt)]) (nms := ["sides", "row", "room"]) G hg R.room (by rfl) (by rfl) (by rfl) (by rfl) (by rfl) (by rfl) (by rfl) (by decide) ?_ (by rfl) (by rfl) ?_
  · intro L x hx
    rcases List.mem_cons.mp hx with rfl | hx
    · exact .inr ⟨by rfl, by rfl⟩
    rcases List.mem_cons.mp hx with rfl | hx
    · exact .inl (by rfl)
    rcases List.mem_singleton.mp hx with rfl
    exact .inr ⟨by rfl, by rfl⟩
  · intro env L cs m cm h₁ tk₁ V hcs hm hcm B
    have R' : Rm (A.deeper env) (n + 1) := R.deeper
    have hmr : m "row" = some (.ref ra) := hm _ (.tail _ (.head _)) (by rfl)
    have hcsd : cm "sides" = some sv := hcm _ (.head _) (by rfl)
    have hcr : cm "room" = some (.int ri rt) := hcm _ (.tail _ (.tail _ (.head _))) (by rfl)
    subst hcs
    have hrec : RecOk (treesR S n) r := fun side r' _ hr' => trees_ok h3 n side r' (by lia  ) (by lia  )
    have htr : treesR S (n + 1) row r = row.foldl (signStep S (treesR S n) r) [([], 0, 1)] := by show (if r = 0 then [] else _) = _; rw [if_neg hr0]
    -- if room < 0
    refine sCons (sIf (tCmp (nameCB V B (by rfl) (by rfl) hcr (cInt fun t1 tk1 => iLt (truB ?_)))))
    refine kIf_f (by simp; lia  ) ?_
    refine sNil ?_
    -- found = [([], 0, 1)]
    refine sCons (sAssign (dispP (argCons (dispT (argCons (dispP (argNil ⟨_, _, _, _, _, _, rfl, B.le, by simp, fun g2 h2 W₀ S2 e2 => ?_⟩)))))))
    have B2 := B.pure S2
    refine argCons (cInt fun t2 tk2 => argCons (cInt fun t3 tk3 => argNil ⟨_, _, _, _, _, _, rfl, B2.le, by simp [sizeLine_eq], fun g3 h3' T₀ S3 e3 => ?_⟩))
    have B3 := B2.pure S3
    refine argNil ⟨_, _, _, _, _, _, rfl, B3.le, by simp [sizeLine_eq], fun g4 h4' F₀ S4 e4 => ?_⟩
    have B4 := B3.pure S4
    refine storeL V B4 (by rfl) fun h5 tk5 B5 => ?_
    have hF0 : LT g4 (.ref F₀) [([], 0, 1)] := ⟨F₀, _, 0, rfl, e4, .one ⟨T₀, _, _, _, 0, rfl, S4.le _ _ e3, ⟨W₀, [], 0, rfl, S4.le _ _ (S3.le _ _ e2), .nil⟩, ⟨t2, rfl⟩, ⟨t3, rfl⟩⟩⟩
    -- for sign in row
    have er4 := B4.ge _ _ er
    have hrvl := hri2.len
    refine sCons (sFor (nameL V B5 (by rfl) (upd_of hmr) (iterL B5 er4 fun h6' I B6 => ?_)))
    have W : It pg w (A.deeper env) g4 I rvs.length (fun i v => rvs[i]? = some v) (listIt ra) := It.list R'.hh er4
    refine for_loop rvs.length (J4 gs dr os g4 hp g L I ra sv ri rt row S n r) ?turn ?last
        ⟨_, _, _, _, g4, _, rfl, LE.rfl', upd_self, hcsd, hcr, B6, hF0⟩
    case last =>
      rintro s ⟨h', tk', m', cm', g', F, rfl, hle, hmf, hcs', hcr', B', hF⟩
      refine lastI (pre := []) W hle B' fun h7 tk7 B7 => ⟨rfl, _, rfl, ?_⟩
      refine sCons (sRet (nameL V B7 (by rfl) hmf ?_))
      rw [hrvl, List.take_length, ← htr] at hF
      exact h _ _ _ _ B7.exit hF
    case turn =>
      rintro i s hi ⟨h', tk', m', cm', g', F, rfl, hle, hmf, hcs', hcr', B', hF⟩
      refine stepI (pre := []) W hle B' hi fun v h7 tk7 hv7 B7 => ⟨v, rfl, ?_⟩
      obtain ⟨c, hc, ct, rfl⟩ := hri2.get hv7
      refine letGo_name (assignC V B7 (by rfl) (c := L + 3) (by rfl) fun h8 B8 => ?_)
      have hok := fold_ok h3 h6 hr0 hrec (row.take i) 0 _ start_ok
      have hnext : (row.take (i + 1)).foldl (signStep S (treesR S n) r) [([], 0, 1)] = signStep S (treesR S n) r ((row.take i).foldl (signStep S (treesR S n) r) [([], 0, 1)]) c := by
        rw [List.take_add_one, hc, List.foldl_append]; rfl
      generalize (row.take i).foldl (signStep S (treesR S n) r) [([], 0, 1)] = found at hnext hF hok
      have h32 := hok.small h6
      have hj3 : 0 + (row.take i).length ≤ 3 := by rw [List.length_take]; lia  
      obtain ⟨fa, fvs, fn, rfl, ef, hfall⟩ := hF
      have hfl := hfall.len
      refine sCons (sIf (tCmp (nameCB V B8 (by rfl) (by rfl) upd_self (cInt fun t9 tk9 => iLt (truB ?_)))))
      by_cases hc256 : c < 256
      · refine kIf_t (by simpa using hc256) ?_
        have hst : signStep S (treesR S n) r found c = found.map (leafStep c) := if_pos hc256
        rw [hst] at hnext
        refine sCons (comp_assign (cl := [("sign", L + 3)]) V (by rfl) (swaps_lc V (by rfl) (by rfl)) (closure_of V.cl (by rfl)) (by decide) (by rfl) (by decide) (nameL V B8 (by rfl) hmf ?_))
        refine ⟨h8, _, _, _, _, g', _, fun out gg => All2 (IsTr gg) out (found.map (leafStep c)), hp, g, _, _, _, _, rfl, B8, Ready.list B8.le ef, fun out a b l h => AllTr.mono l h, fun C D I1 h9 tk9 hI B9 => ?_, fun g10 h10 tk10 D2 out k10 B10 l10 e10 hout => sNil (sNil ?_)⟩
        · have hcc : h8.IsCell (L + 3) (some (.int c ct)) := cell_upd (B8.cell "sign" (L + 3) (by rfl)) (by rfl)
          have V1 := V.comp (C := C) (cl := [("sign", L + 3)]) (scope := { kind := .function, names := [(".0", .local), ("word", .local), ("size", .local), ("hooks", .local), ("sign", .free)], isGenerator := false, isCoroutine := false }) (by rfl)
          refine compL (out₀ := []) (rest := []) (d := 0) (xs := found) (by rfl) (.inl (by rfl)) (It.list R'.hh ef) LE.rfl' hfall.len (IsTr g') (fun i v hv => hfall.get hv) (fun _ => True) (fun gg v y => IsTr gg v y) (fun a b v y l h => IsTr.mono l h) (fun t => [leafStep c t]) ?_ trivial (B9.weaken (pre := [(D, isLst [])]) (q := listIt fa 0) ?_) ?_
          · intro i' v x m2 ys g11 h11 tk11 hx hv l _ hys B11
            obtain ⟨a, va, vb, vc, tn, rfl, et, hw, hsz, hhk⟩ := hv
            have hyl := hys.len
            refine (letGo_tup (pre := [(D, isLst ([] ++ ys))]) B11 (assign3 R'.hh V1 B11 (l _ _ et) (by rfl) (by rfl) (by rfl) fun h12 tk12 B12 => tests_nil ?_))
            obtain ⟨wa, wvs, wn, rfl, ew, hwi⟩ := hw
            have hwl := hwi.len
            obtain ⟨q1, q2, q3⟩ := hok.each x (List.mem_of_getElem? hx)
            refine emit_one (dispT (argCons (eBin (nameL V1 B12 (by rfl) (upd_of (upd_of upd_self)) (dispP (argCons (nameC V1 (by rfl) (by rfl) (hcc.keeps B12.kp) (argNil ⟨_, _, _, _, _, _, rfl, B12.le, by simp [sizeLine_eq], fun g13 h13 c13 S13 e13 => ?_⟩))))))))
              (by show ([] ++ ys).length ≤ _; rw [List.nil_append, hyl, fm_one, List.length_map, List.length_take, sizeLine_eq]; lia  )
            have B13 := B12.pure S13
            refine list_add (g := g13) B13.le (S13.le _ _ (l _ _ ew)) e13 (by simp [sizeLine_eq]; lia  ) fun g14 h14 c14 S14 e14 => ?_
            have B14 := B13.pure S14
            refine argCons (nameL V1 B14 (by rfl) (upd_of upd_self) (argCons (nameL V1 B14 (by rfl) upd_self (argNil ⟨_, _, _, _, _, _, rfl, B14.le, by simp [sizeLine_eq], fun g15 h15 c15 S15 e15 => ?_⟩))))
            exact ⟨h15, _, _, g15, rfl, (S13.le.tr S14.le).tr S15.le, trivial, B14.pure S15, ⟨c15, _, _, _, 0, rfl, e15, ⟨c14, _, _, rfl, S15.le _ _ e14, hwi.app (.one ⟨ct, rfl⟩)⟩, hsz, hhk⟩⟩
          · rintro o rfl; exact ⟨rfl, rfl⟩
          · intro h' tk' m' g' ys l _ B' hy
            exact ⟨_, h', tk', m', ys, [], g', rfl, rfl, B', by rw [fm_one] at hy; exact hy⟩
        · exact ⟨_, _, _, _, g10, _, rfl, hle.tr l10, upd_self, upd_of hcs', upd_of hcr', B10, by rw [hnext]; exact ⟨D2, out, k10, rfl, e10, hout⟩⟩
      · refine kIf_f (by simpa using hc256) ?_
        have hst : signStep S (treesR S n) r found c = found.flatMap (nodeStep S (treesR S n) r c) := if_neg hc256
        rw [hst] at hnext
        obtain ⟨sa, svs, sn, rfl, es, hsall⟩ := hs
        have hsl := hsall.len
        have hreclen : ∀ side, side.length ≤ 3 → ∀ r', r' < r → (treesR S n side r').length ≤ 32 := fun side hsd r' hr' => by
          obtain ⟨k0, k1⟩ := hrec side r' hsd hr'
          by_cases e : r' = 0
          · rw [k0 e]; simp
          · exact (k1 e).small (by lia  )
        refine sCons (comp_assign (cl := [("sign", L + 3), ("sides", L + 1), ("room", L + 2)]) V (by rfl) (swaps_lc V (by rfl) (by rfl)) (closure_of V.cl (by rfl)) (by decide) (by rfl) (by decide) (nameL V B8 (by rfl) hmf ?_))
        refine ⟨h8, _, _, _, _, g', _, fun out gg => All2 (IsTr gg) out (found.flatMap (nodeStep S (treesR S n) r c)), hp, g, _, _, _, _, rfl, B8, Ready.list B8.le ef, fun out a b l h => AllTr.mono l h, fun C D I1 h9 tk9 hI B9 => ?_, fun g10 h10 tk10 D2 out k10 B10 l10 e10 hout => sNil (sNil ?_)⟩
        · have hcc : h8.IsCell (L + 3) (some (.int c ct)) := cell_upd (B8.cell "sign" (L + 3) (by rfl)) (by rfl)
          have hcsc : h8.IsCell (L + 1) (some (.ref sa)) := by have := B8.cell "sides" (L + 1) (by rfl); rwa [upd_of hcs'] at this
          have hcrc : h8.IsCell (L + 2) (some (.int ri rt)) := by have := B8.cell "room" (L + 2) (by rfl); rwa [upd_of hcr'] at this
          have V1 := V.comp (C := C) (cl := [("sign", L + 3), ("sides", L + 1), ("room", L + 2)]) (scope := { kind := .function, names := [(".0", .local), ("word", .local), ("size", .local), ("hooks", .local), ("side", .local), ("more", .local), ("under", .local), ("times", .local), ("_law_trees", .globalImplicit), ("room", .free), ("sides", .free), ("sign", .free)], isGenerator := false, isCoroutine := false }) (by rfl)
          refine compL (out₀ := []) (rest := []) (d := 0) (xs := found) (by rfl) (.inr ⟨_, _, _, rfl⟩) (It.list R'.hh ef) LE.rfl' hfall.len (IsTr g') (fun i v hv => hfall.get hv) (fun _ => True) (fun gg v y => IsTr gg v y) (fun a b v y l h => IsTr.mono l h) (nodeStep S (treesR S n) r c) ?_ trivial (B9.weaken (pre := [(D, isLst [])]) (q := listIt fa 0) ?_) ?_
          · intro i' v x m2 ys g11 h11 tk11 hx hv l11 _ hys B11
            obtain ⟨a, va, vb, vc, tn, rfl, et, hw, hsz, hhk⟩ := hv
            have hyl := hys.len
            obtain ⟨q1, q2, q3⟩ := hok.each x (List.mem_of_getElem? hx)
            have hyb : ys.length ≤ 2048 := by
              have hb := flatMap_le (nodeStep S (treesR S n) r c) 64 (found.take i') fun t ht => by
                have := flatMap_le (fun side => (treesR S n side (r - 1 - t.2.1)).map (joinTr t)) 32 (sidesFor S c) fun side hsd => by rw [List.length_map]; exact hreclen side (sidesFor_mem hsd h3) _ (by lia  )
                rw [sidesFor_len] at this; exact this
              have hb2 : (found.take i').length ≤ found.length := by rw [List.length_take]; lia  
              lia  
            obtain ⟨zt, rfl⟩ := hsz
            obtain ⟨ht, rfl⟩ := hhk
            refine (letGo_tup (pre := [(D, isLst ([] ++ ys))]) B11 (assign3 R'.hh V1 B11 (l11 _ _ et) (by rfl) (by rfl) (by rfl) fun h12 tk12 B12 => tests_nil ?_))
            refine inner_nest (by rfl) (eSlice (nameC V1 (by rfl) (by rfl) (hcsc.keeps B12.kp) (pSome (eBin (nameC V1 (by rfl) (by rfl) (hcc.keeps B12.kp) (cInt fun t7 tk7 => iMod (by decide) fun t8 tk8 => pNone (pSome (cInt fun t9 tk9 => ⟨_, _, _, _, _, rfl, ?_⟩))))))))
            refine slice_tail (g := g11) B12.le (isList_of (B12.le _ _ (l11 _ _ (hle _ _ (B4.ge _ _ es))))) (.int _ _) .none (.int 2 t9) (by decide) (by simp [sizeLine_eq]; lia  ) fun g13 h13 c13 S13 e13 => ?_
            have B13 := B12.pure S13
            have hsd := AllInts.mono (((B4.ge.tr hle).tr l11).tr S13.le) (pick_two h4 hsall c)
            generalize (slicePick svs.toArray (some (c.fmod 2)) none (some 2)).toList = sdv at e13 hsd
            refine iterL B13 e13 fun h14 I14 B14 => ⟨?_, fun Q' E hq => ?_⟩
            · refine compL (out₀ := [] ++ ys) (rest := [(I1, listIt fa (i' + 1))]) (d := 1) (xs := sidesFor S c) (by rfl) (.inr ⟨_, _, _, rfl⟩) (It.list R'.hh e13) LE.rfl' hsd.len (Ints g13) (fun i v hv => hsd.get hv)
                (fun m => m "word" = some va ∧ m "size" = some (.int (x.2.1 : Nat) zt) ∧ m "hooks" = some (.int (x.2.2 : Nat) ht)) (fun gg v y => IsTr gg v y) (fun a b v y l h => IsTr.mono l h) (fun side => (treesR S n side (r - 1 - x.2.1)).map (joinTr x)) ?_ ⟨upd_of (upd_of upd_self), upd_of upd_self, upd_self⟩ (B14.perm (.swap ..)) ?_
              · intro i2 v2 side m3 zs g15 h15 tk15 hsx hsv l15 hk15 hzs B15
                obtain ⟨km1, km2, km3⟩ := hk15
                have hs3 := sidesFor_mem (List.mem_of_getElem? hsx) h3
                have hzl := hzs.len
                have hzb : zs.length ≤ 64 := by
                  have hb := flatMap_le (fun side => (treesR S n side (r - 1 - x.2.1)).map (joinTr x)) 32 ((sidesFor S c).take i2) fun side hsd => by rw [List.length_map]; exact hreclen side (sidesFor_mem (List.mem_of_mem_take hsd) h3) _ (by lia  )
                  have hb2 : ((sidesFor S c).take i2).length ≤ 2 := by rw [List.length_take, sidesFor_len]; lia  
                  lia  
                refine letGo_name (assignL V1 B15 (by rfl) fun h16 tk16 B16 => tests_nil ?_)
                have G16 := G.mono (B8.kp.tr B16.kp)
                refine inner_nest (by rfl) (callDef (K := KK w) (a := 195) (by rfl) (nameG V1 G16 (by rfl) (by rfl) ⟨rfl, argCons (nameC V1 (by rfl) (by rfl) (hcsc.keeps B16.kp) (argCons (nameL V1 B16 (by rfl) upd_self (argCons (eBin (eBin (nameC V1 (by rfl) (by rfl) (hcrc.keeps B16.kp) (nameL V1 B16 (by rfl) (upd_of km2) (iSub fun t10 tk10 => cInt fun t11 tk11 => iSub fun t12 tk12 => ?_)))))))))⟩))
                refine argNil ⟨G16, ih _ _ _ _ _ _ g15 _ _ side (r - 1 - x.2.1) _ _ _ G16 B16.le R' ⟨sa, svs, sn, rfl, ?_, ?_⟩ (IsL.mono l15 hsv) hs3 (by lia  ) (by lia  ) (by lia  ) fun g17 h17 tk17 v17 S17 hT => ?_⟩
                · exact l15 _ _ (S13.le _ _ (l11 _ _ (hle _ _ (B4.ge _ _ es))))
                · exact AllInts.mono ((((B4.ge.tr hle).tr l11).tr S13.le).tr l15) hsall
                have B17 := B16.pure S17
                obtain ⟨ua, uvs, un, rfl, eu, huall⟩ := hT
                have hul := huall.len
                have hub := hreclen side hs3 (r - 1 - x.2.1) (by lia  )
                refine iterL B17 eu fun h18 I18 B18 => ⟨?_, fun Q' E hq => ?_⟩
                · refine compL (out₀ := [] ++ ys ++ zs) (rest := [(I14, listIt c13 (i2 + 1)), (I1, listIt fa (i' + 1))]) (d := 2) (xs := treesR S n side (r - 1 - x.2.1)) (by rfl) (.inl (by rfl)) (It.list R'.hh eu) LE.rfl' huall.len (IsTr g17) (fun i v hv => huall.get hv)
                    (fun m => m "word" = some va ∧ m "size" = some (.int (x.2.1 : Nat) zt) ∧ m "hooks" = some (.int (x.2.2 : Nat) ht)) (fun gg v y => IsTr gg v y) (fun a b v y l h => IsTr.mono l h) (fun u => [joinTr x u]) ?_ ⟨upd_of km1, upd_of km2, upd_of km3⟩ (B18.perm (.swap ..)) ?_
                  · intro i3 v3 u m4 us g19 h19 tk19 hux huv l19 hk19 hus B19
                    obtain ⟨kn1, kn2, kn3⟩ := hk19
                    obtain ⟨ub, uva, uvb, uvc, utn, rfl, eut, huw, ⟨ut1, rfl⟩, ⟨ut2, rfl⟩⟩ := huv
                    obtain ⟨wa, wvs, wn, rfl, ew, hwi⟩ := hw
                    obtain ⟨wb, wvs2, wn2, rfl, ew2, hwi2⟩ := huw
                    have hw1 := hwi.len
                    have hw2 := hwi2.len
                    have hus2 := hus.len
                    rw [fm_one, List.length_map, List.length_take] at hus2
                    have hne : r - 1 - x.2.1 ≠ 0 := fun e => by
                      have := (hrec side (r - 1 - x.2.1) hs3 (by lia  )).1 e
                      rw [this] at hux; simp at hux
                    obtain ⟨p1, p2, p3⟩ := ((hrec side (r - 1 - x.2.1) hs3 (by lia  )).2 hne).each u (List.mem_of_getElem? hux)
                    have b6 : 6 ^ x.2.1 ≤ 6 ^ 5 := Nat.pow_le_pow_right (by decide) (by lia  )
                    have b7 : 6 ^ u.2.1 ≤ 6 ^ 5 := Nat.pow_le_pow_right (by decide) (by lia  )
                    have hprod : x.2.2 * u.2.2 ≤ 6 ^ 5 * 6 ^ 5 := Nat.mul_le_mul (by lia  ) (by lia  )
                    have hmul := mul_ok (a := x.2.2 * u.2.2) (b := 1 + u.2.1) (by lia  )
                    push_cast at hmul
                    refine (letGo_tup (pre := [(D, isLst ([] ++ ys ++ zs ++ us))]) B19 (assign3 R'.hh V1 B19 (l19 _ _ eut) (by rfl) (by rfl) (by rfl) fun h20 tk20 B20 => tests_nil ?_))
                    have ew' := l19 _ _ (S17.le _ _ (l15 _ _ (S13.le _ _ (l11 _ _ ew))))
                    refine emit_one (dispT (argCons (eBin (nameL V1 B20 (by rfl) (upd_of (upd_of (upd_of kn1))) (nameL V1 B20 (by rfl) (upd_of (upd_of upd_self)) ?_))))) (by simp; rw [sizeLine_eq]; lia  )
                    refine list_add (g := g19) B20.le ew' (l19 _ _ ew2) (by rw [sizeLine_eq]; lia  ) fun g21 h21 c21 S21 e21 => ?_
                    have B21 := B20.pure S21
                    refine argCons (eBin (eBin (nameL V1 B21 (by rfl) (upd_of (upd_of (upd_of kn2))) (cInt fun t13 tk13 => iAdd fun t14 tk14 => nameL V1 B21 (by rfl) (upd_of upd_self) (iAdd fun t15 tk15 => ?_)))))
                    refine argCons (eBin (eBin (nameL V1 B21 (by rfl) (upd_of (upd_of (upd_of kn3))) (nameL V1 B21 (by rfl) upd_self (iMul (mul_ok (by lia  )) fun t16 tk16 => eBin (cInt fun t17 tk17 => nameL V1 B21 (by rfl) (upd_of upd_self) (iAdd fun t18 tk18 => iMul hmul fun t19 tk19 => ?_)))))))
                    refine argNil ⟨_, _, _, _, _, _, rfl, B21.le, by simp [sizeLine_eq], fun g22 h22 c22 S22 e22 => ?_⟩
                    refine ⟨h22, _, _, g22, rfl, S21.le.tr S22.le, ⟨upd_of (upd_of (upd_of kn1)), upd_of (upd_of (upd_of kn2)), upd_of (upd_of (upd_of kn3))⟩, B21.pure S22, ⟨c22, _, _, _, 0, rfl, e22, ⟨c21, _, _, rfl, S22.le _ _ e21, hwi.app hwi2⟩, ⟨t15, ?_⟩, ⟨t19, ?_⟩⟩⟩
                    · show _ = Value.int ((x.2.1 + 1 + u.2.1 : Nat) : Int) _; push_cast; rfl
                    · show _ = Value.int ((x.2.2 * u.2.2 * (1 + u.2.1) : Nat) : Int) _; push_cast; rfl
                  · intro h' tk' m5 g5 us l5 hk5 B5' hz
                    refine ⟨.next, rfl, h', tk', m5, g5, us, rfl, S17.le.tr l5, hk5, B5', ?_⟩
                    rw [fm_one] at hz; exact hz
                · obtain ⟨o, eo, hc, hd⟩ := B18.at (a := I18) (p := listIt ua 0) (by first | exact .head _ | exact .tail _ (.head _) | exact .tail _ (.tail _ (.head _)) | exact .tail _ (.tail _ (.tail _ (.head _))) | exact .tail _ (.tail _ (.tail _ (.tail _ (.head _)))) | exact .tail _ (.tail _ (.tail _ (.tail _ (.tail _ (.head _))))))
                  exact wpAny_pyIter_listiter (i := 0) ⟨o, eo, hc, hd⟩ hq
              · intro h' tk' m5 g5 zs l5 _ B5' hz
                exact ⟨.next, rfl, h', tk', m5, g5, zs, rfl, S13.le.tr l5, trivial, B5', hz⟩
            · obtain ⟨o, eo, hc, hd⟩ := B14.at (a := I14) (p := listIt c13 0) (by first | exact .head _ | exact .tail _ (.head _) | exact .tail _ (.tail _ (.head _)) | exact .tail _ (.tail _ (.tail _ (.head _))) | exact .tail _ (.tail _ (.tail _ (.tail _ (.head _)))) | exact .tail _ (.tail _ (.tail _ (.tail _ (.tail _ (.head _))))))
              exact wpAny_pyIter_listiter (i := 0) ⟨o, eo, hc, hd⟩ hq
          · rintro o rfl; exact ⟨rfl, rfl⟩
          · intro h' tk' m' g' ys l _ B' hy
            exact ⟨_, h', tk', m', ys, [], g', rfl, rfl, B', hy⟩
        · exact ⟨_, _, _, _, g10, _, rfl, hle.tr l10, upd_self, upd_of hcs', upd_of hcr', B10, by rw [hnext]; exact ⟨D2, out, k10, rfl, e10, hout⟩⟩
theorem trees_spec {S : List (List Int)} (h4 : S.length = 4) (h3 : ∀ s ∈ S, s.length ≤ 3) : ∀ n, TreesSpec w S n
  | 0 => by
    intro A hp gs dr tk os g sv rv row r ri rt Q G hg R hs hr hrl hrn h6 hri h
    obtain rfl : r = 0 := by lia  
    obtain rfl : ri = -1 := by lia  
    exact trees_zero G hg (R.less (Nat.zero_le _)) h
  | n + 1 => trees_step h4 h3 (trees_spec h4 h3 n)
end
end Mine
end
section
open PySem PySem.W PyProof.Rows
set_option maxRecDepth 100000
namespace Mine
noncomputable def onceStep (told : List (List Int)) (one : List Int) : List (List Int) := if one ∈ told then told else told ++ [one]
noncomputable def onceOf (row : List (List Int)) : List (List Int) := row.foldl onceStep []
theorem once_len : ∀ (row told : List (List Int)), (row.foldl onceStep told).length ≤ told.length + row.length
  | [], told => Nat.le_refl _
  | c :: row, told => by
    rw [List.foldl_cons, List.length_cons]
    refine Nat.le_trans (once_len row _) ?_
    unfold onceStep; split
    · lia  
    · simp; lia  
noncomputable def nOnce : List (Str × NameKind) := [("row", .local), ("told", .local), ("one", .local)]
inductive J5 (gs : Array GenState) (dr : Drawn) (os : OsState) (hp : Heap) (g : Heap) (L : Addr) (cs : List (Str × Addr)) (cm : Str → Option Value) (I : Addr) (a : Addr) (D : Addr) (row : List (List Int)) (i : Nat) (s : Shared) : Prop
  | mk (h' : Heap) (tk' : Nat) (m' : Str → Option Value) (out : List Value)
    (q0 : s = ⟨h', gs, dr, tk', os⟩) (q1 : m' "told" = some (.ref D)) (q2 : Bd hp g L cs m' cm [(I, listIt a i), (D, isLst out)] g h') (q3 : All2 (Ints g) out ((row.take i).foldl onceStep []))

section
variable {w : World} {A : Around} {hp : Heap} {gs : Array GenState} {dr : Drawn} {tk : Nat} {os : OsState} {g : Heap}
set_option maxHeartbeats 1000000 in
theorem once_spec {rv : Value} {row : List (List Int)} {Q : Value → Shared → Prop} (G : Gl (KK w) hp) (hg : LE g hp) (R : Rm A 1) (hr : LL g rv row) (hlen : row.length ≤ 10000)
    (h : ∀ g' h' tk' v, Stp g hp g' h' → LL g' v (onceOf row) → Q v ⟨h', gs, dr, tk', os⟩) : Wp pg w A (call (.ref 202) [rv]) Q ⟨hp, gs, dr, tk, os⟩ := by
  obtain ⟨a, vs, n, rfl, ea, hall⟩ := hr
  refine enter (K := KK w) (fd := _) (names := nOnce) (binds := [("row", .ref a)]) (nms := ["row"]) G hg R.room (by rfl) (by rfl) (by rfl) (by rfl) (by rfl) (by rfl) (by rfl) (by decide) ?_ (by rfl) (by rfl) ?_
  · intro L x hx
    rcases List.mem_singleton.mp hx with rfl
    exact .inl (by rfl)
  · intro env L cs m cm h₁ tk₁ V hcs hm hcm B
    have R' : Rm (A.deeper env) 0 := R.deeper
    have hmr : m "row" = some (.ref a) := hm _ (.head _) (by rfl)
    have hvl := hall.len
    refine sCons (sAssign (dispO (argNil ⟨_, _, _, _, _, rfl, by decide, fun h₂ D e1 e2 => ?_⟩)))
    refine storeL V (B.mk1 e1 e2) (by rfl) fun h3 tk3 B3 => ?_
    refine sCons (sFor (nameL V B3 (by rfl) (upd_of hmr) (iterL B3 ea fun h5 I B5 => ?_)))
    have W : It pg w (A.deeper env) g I vs.length (fun i v => vs[i]? = some v) (listIt a) := It.list R'.hh ea
    refine for_loop vs.length (J5 gs dr os hp g L cs cm I a D row) ?turn ?last
        ⟨_, _, _, [], rfl, upd_self, B5, .nil⟩
    case last =>
      rintro s ⟨h', tk', m', out, rfl, hmt, B', hO⟩
      refine lastI (pre := []) W LE.rfl' B' fun h7 tk7 B7 => ⟨rfl, _, rfl, ?_⟩
      refine sCons (sRet (nameL V B7 (by rfl) hmt ?_))
      obtain ⟨g8, o, B8, l8, e8, ⟨n8, rfl⟩, _⟩ := B7.freeze (pre := [])
      rw [hvl, List.take_length] at hO
      exact h g8 h7 tk7 _ B8.exit ⟨D, out, n8, rfl, e8, AllInts.mono l8 hO⟩
    case turn =>
      rintro i s hi ⟨h', tk', m', out, rfl, hmt, B', hO⟩
      refine stepI (pre := []) W LE.rfl' B' hi fun v h7 tk7 hv7 B7 => ⟨v, rfl, ?_⟩
      obtain ⟨c, hc, hci⟩ := hall.get hv7
      have hOl := hO.len
      have hob := once_len (row.take i) []
      rw [List.length_take] at hob
      have hnext : (row.take (i + 1)).foldl onceStep [] = onceStep ((row.take i).foldl onceStep []) c := by rw [List.take_add_one, hc, List.foldl_append]; rfl
      refine letGo_name (assignL V B7 (by rfl) fun h8 tk8 B8 => ?_)
      obtain ⟨nD, eD⟩ := B8.atL (a := D) (vs := out) (by first | exact .head _ | exact .tail _ (.head _) | exact .tail _ (.tail _ (.head _)) | exact .tail _ (.tail _ (.tail _ (.head _))) | exact .tail _ (.tail _ (.tail _ (.tail _ (.head _)))) | exact .tail _ (.tail _ (.tail _ (.tail _ (.tail _ (.head _))))))
      refine sCons (sIf (tCmp (nameL V B8 (by rfl) upd_self (nameL V B8 (by rfl) (upd_of hmt) ?_))))
      refine notInLL (IsL.mono B8.le hci) ⟨D, out, nD, rfl, eD, AllInts.mono B8.le hO⟩ R'.u64 (truB ?_)
      by_cases hin : c ∈ (row.take i).foldl onceStep []
      · refine kIf_f (by simpa using hin) ?_
        refine sNil (sNil ⟨_, _, _, out, rfl, upd_of hmt, B8, ?_⟩)
        rw [hnext, onceStep, if_pos hin]; exact hO
      · refine kIf_t (by simpa using hin) ?_
        refine sCons (sAppend (nameL V B8 (by rfl) (upd_of hmt) ⟨D, out, nD, rfl, eD, nameL V B8 (by rfl) upd_self ?_⟩) V.quiet)
        refine append_own (pre := [(I, listIt a (i + 1))]) B8 (by rw [sizeLine_eq]; simp at hob; lia  ) fun h9 B9 => sNil (sNil ⟨_, _, _, _, rfl, upd_of hmt, B9, ?_⟩)
        rw [hnext, onceStep, if_neg hin]; exact hO.app (.one hci)
end
end Mine
end
section
open PySem PySem.W PyProof.Rows PySem.SeqAt
open AutoSeq1 (wpAny_loadPart')
open MeetsSeq MeetsSeq2 MeetsSeq3 SeqRoads2
set_option maxRecDepth 100000
namespace Mine
/-! a list of ints against another: < -/
theorem all2_at {α : Type} {R : Value → α → Prop} {vs : List Value} {xs : List α} (h : All2 R vs xs) {i : Nat} (hi : i < vs.length) : ∃ h' : i < xs.length, R vs[i] xs[i] := by
  have e := h.len
  obtain ⟨x, hx, r⟩ := h.get (List.getElem?_eq_getElem hi)
  obtain ⟨h', rfl⟩ := List.getElem?_eq_some_iff.mp hx
  exact ⟨h', r⟩
theorem lt_loop (l b : Addr) (vs us : List Value) (xs ys : List Int) (hv : All2 IsInt vs xs) (hu : All2 IsInt us ys) (n n2 : Nat) (k : Nat) :
    ∀ i : Nat, vs.length - i = k → i ≤ vs.length → i ≤ us.length → Meets (Builtin.«list.__eq__.loop» ⟨[.ref l, .ref b, rawInt i, rawInt 0], []⟩)
      (fun _ R s => s.heap.get? l = some (lst vs n) ∧ s.heap.get? b = some (lst us n2) ∧ R (.ok (.ret (.bool (decide (xs.drop i < ys.drop i))))) s) := by
  have e1 := hv.len
  have e2 := hu.len
  induction k with
  | zero =>
    intro i hk h1 h2 prog w A R s h
    obtain ⟨hp, g, d, tk, os⟩ := s; obtain ⟨hl, hb, h⟩ := h
    obtain rfl : i = vs.length := by lia  
    wp_walk using wpAny_loadPart' hl, wpAny_loadPart' hb
    have hi1 : vs.toArray[((vs.length : Nat) : Int).toNat]? = none := by simp
    rw [hi1]
    wp_walk using wpAny_loadPart' hl, wpAny_loadPart' hb
    show R (.ok (.ret (.bool (decide (vs.toArray.size < us.toArray.size))))) _
    have : decide (vs.toArray.size < us.toArray.size) = decide (xs.drop vs.length < ys.drop vs.length) := by
      rw [e1, List.drop_length]
      by_cases q : ys.length ≤ xs.length
      · rw [List.drop_of_length_le q]; simp; lia  
      · have : ys.drop xs.length ≠ [] := by simp; lia  
        obtain ⟨y, r, hy⟩ := List.exists_cons_of_ne_nil this
        rw [hy]; simp; lia  
    rw [this]; exact h
  | succ k ih =>
    intro i hk h1 h2 prog w A R s h
    obtain ⟨hp, g, d, tk, os⟩ := s; obtain ⟨hl, hb, h⟩ := h
    have hlt : i < vs.length := by lia  
    have hi1 : vs.toArray[((i : Nat) : Int).toNat]? = some vs[i] := by simp [hlt]
    obtain ⟨hx, t, et⟩ := all2_at hv hlt
    wp_walk using wpAny_loadPart' hl, wpAny_loadPart' hb
    rw [hi1]
    by_cases hlt2 : i < us.length
    · have hi2 : us.toArray[((i : Nat) : Int).toNat]? = some us[i] := by simp [hlt2]
      obtain ⟨hy, u, eu⟩ := all2_at hu hlt2
      have hc : ((i : Int) + 1) = ((i + 1 : Nat) : Int) := by push_cast; rfl
      have d1 : xs.drop i = xs[i] :: xs.drop (i + 1) := by rw [List.drop_eq_getElem_cons hx]
      have d2 : ys.drop i = ys[i] :: ys.drop (i + 1) := by rw [List.drop_eq_getElem_cons hy]
      rw [hi2, et, eu]
      refine wpAny_bind (EqAt.int_int _ _ _ _ prog w _ _ ?_)
      cases hq : (xs[i] == ys[i]) with
      | true =>
        have hq' : xs[i] = ys[i] := by simpa using hq
        wp_walk
        rw [hc]
        refine ⟨plainId_quiet plain_eq_loop _, codeAny_builtin entry_eq_loop (by
          rw [Around.under_plainId plain_eq_loop _]
          refine ih (i + 1) (by lia  ) (by lia  ) (by lia  ) prog w A R _ ⟨hl, hb, ?_⟩
          have : decide (xs.drop i < ys.drop i) = decide (xs.drop (i + 1) < ys.drop (i + 1)) := decide_eq_decide.mpr (by
            rw [d1, d2, hq', List.cons_lt_cons_iff]
            exact ⟨fun q => q.elim (fun q => absurd q (Int.lt_irrefl _)) fun q => q.2, fun q => .inr ⟨rfl, q⟩⟩)
          rw [← this]; exact h)⟩
      | false =>
        have hq' : ¬ xs[i] = ys[i] := by simpa using hq
        wp_walk using wpAny_loadPart' hl, wpAny_loadPart' hb
        rw [hi1, hi2, et, eu]
        refine wpAny_bind (PyProof.Rows.lt_int ?_)
        refine wpAny_pure ?_
        have : decide (xs.drop i < ys.drop i) = decide (xs[i] < ys[i]) := decide_eq_decide.mpr (by
          rw [d1, d2, List.cons_lt_cons_iff]
          exact ⟨fun q => q.elim id fun q => absurd q.1 hq', .inl⟩)
        rw [this] at h; exact h
    · have hi2 : us.toArray[((i : Nat) : Int).toNat]? = none := by simp; lia  
      rw [hi2]
      wp_walk using wpAny_loadPart' hl, wpAny_loadPart' hb
      show R (.ok (.ret (.bool (decide (vs.toArray.size < us.toArray.size))))) _
      have : decide (vs.toArray.size < us.toArray.size) = decide (xs.drop i < ys.drop i) := by
        rw [List.drop_of_length_le (l := ys) (by lia  )]
        simp; lia  
      rw [this]; exact h
theorem list_lt (l b : Addr) (vs us : List Value) (xs ys : List Int) (hv : All2 IsInt vs xs) (hu : All2 IsInt us ys) (n n2 : Nat) :
    Meets (Builtin.«list.__lt__» ⟨[.ref l, .ref b], []⟩) (fun _ R s => s.heap.get? l = some (lst vs n) ∧ s.heap.get? b = some (lst us n2) ∧ R (.ok (.ret (.bool (decide (xs < ys))))) s) := by
  intro prog w A R s h
  obtain ⟨hp, g, d, tk, os⟩ := s; obtain ⟨hl, hb, h⟩ := h
  have f3 := AutoSeq1.sub_list_list
  wp_walk using wpAny_loadPart' hl, wpAny_loadPart' hb
  exact ⟨plainId_quiet plain_eq_loop _, codeAny_builtin entry_eq_loop (by
    rw [Around.under_plainId plain_eq_loop _]
    exact lt_loop l b vs us xs ys hv hu n n2 _ 0 rfl (Nat.zero_le _) (Nat.zero_le _) prog w A R _ ⟨hl, hb, by simpa using h⟩)⟩
section
variable {prog : Program} {w : World} {A : Around} {E : Value → Shared → Prop} {s : Shared} {Q : Bool → Shared → Prop}
theorem oneLt_lists {v u : Value} {xs ys : List Int} (hv : Ints s.heap v xs) (hu : Ints s.heap u ys) (R : A.units < cLine) (h : Q (decide (xs < ys)) s) : wpAny (model prog w) A (keyLt' oneType' v u) Q E s := by
  obtain ⟨a, vs, n, rfl, ea, ia⟩ := hv
  obtain ⟨b, us, k, rfl, eb, ib⟩ := hu
  rw [keyLt'_oneType, oneLt'_eq]
  simp only [if_true]
  refine wpAny_bind (wpAny_cRoomFor R ?_)
  refine wpAny_bind (wpAny_callSpecialIfBound?_slot (T := "list") ⟨_, ea, rfl⟩ PySem.F.slot_list_lt (call_meets PySem.F.slot_list_lt ⟨_, ea, rfl⟩ PySem.F.entry_list_lt (PySem.F.args_list_lt_2 _ _) (list_lt a b vs us xs ys ia ib n k) ⟨ea, eb, ?_⟩))
  exact wpAny_truthy_bool h
end
end Mine
end
section
open PySem PySem.W PyProof.Rows
set_option maxRecDepth 100000
namespace Mine
/-! the sort of fewer than 64 items, as a tree of questions, brings the items into order -/
section
variable {O : KeyOrd} {K : Nat → O.α} {n : Nat} {cmp : Nat → Nat → (Bool → Shared → Prop) → Shared → Prop} {s : Shared}
noncomputable def KP (K : Nat → O.α) (p : Array Nat) (k : Nat) : O.α := K (p.getD k 0)
theorem KP_congr {p q : Array Nat} {i j : Nat} (h : p[i]? = q[j]?) : KP K p i = KP K q j := by
  unfold KP; rw [Array.getD_eq_getD_getElem?, Array.getD_eq_getD_getElem?, h]
noncomputable def Srt (K : Nat → O.α) (p : Array Nat) (m : Nat) : Prop := ∀ i j, i ≤ j → j < m → O.kle (KP K p i) (KP K p j)
noncomputable def Dsc (K : Nat → O.α) (p : Array Nat) (m : Nat) : Prop := ∀ i j, i ≤ j → j < m → O.kle (KP K p j) (KP K p i)
noncomputable def PermR (n : Nat) (p : Array Nat) : Prop := p.toList.Perm (List.range n)
theorem PermR.size {p : Array Nat} (h : PermR n p) : p.size = n := by have := List.Perm.length_eq h; simpa using this
theorem PermR.lt {p : Array Nat} (h : PermR n p) {k : Nat} (hn : 0 < n) : p.getD k 0 < n := by
  rw [Array.getD_eq_getD_getElem?]
  by_cases hk : k < p.size
  · rw [Array.getElem?_eq_getElem hk]
    have : p[k] ∈ List.range n := (List.Perm.mem_iff h).mp (by simp)
    simpa using this
  · rw [Array.getElem?_eq_none (by lia  )]; exact hn
theorem PermR.of {p q : Array Nat} (h : PermR n p) (k : q.Perm p) : PermR n q := (Array.perm_iff_toList_perm.mp k).trans h
theorem rev_perm {p : Array Nat} (h : PermR n p) (i j : Nat) : PermR n (kas_rev p i j) := h.of (mirror_perm _ _ _ _)
theorem KP_rev {p : Array Nat} {i j : Nat} (hj : j ≤ p.size) (k : Nat) : KP K (kas_rev p i j) k = if i ≤ k ∧ k < j then KP K p (i + j - 1 - k) else KP K p k := by
  have e := getElem?_mirror_all (xs := p) (i := i) hj k
  unfold kas_rev
  by_cases h1 : i ≤ k ∧ k < j
  · rw [if_pos h1] at e ⊢; exact KP_congr e
  · rw [if_neg h1] at e ⊢; exact KP_congr e
theorem KP_rev_same {p : Array Nat} {i j : Nat} (hj : j ≤ p.size) (he : ∀ k, i ≤ k → k < j → KP K p k = KP K p (j - 1)) (k : Nat) : KP K (kas_rev p i j) k = KP K p k := by
  rw [KP_rev hj]
  split
  · rw [he _ (by lia  ) (by lia  ), he k (by lia  ) (by lia  )]
  · rfl
theorem KP_bub {p : Array Nat} {k d : Nat} (hk : k < p.size) (hd : d ≤ k) (x : Nat) : KP K (bubble p k d) x = if x = k - d then KP K p k else if k - d < x ∧ x ≤ k then KP K p (x - 1) else KP K p x := by
  have e := getElem?_bubble hk d hd x
  by_cases h1 : x = k - d
  · rw [if_pos h1] at e ⊢; exact KP_congr e
  · rw [if_neg h1] at e ⊢
    by_cases h2 : k - d < x ∧ x ≤ k
    · rw [if_pos h2] at e ⊢; exact KP_congr e
    · rw [if_neg h2] at e ⊢; exact KP_congr e

/-- a question is answered by the keys -/
noncomputable def Ans (K : Nat → O.α) (n : Nat) (cmp : Nat → Nat → (Bool → Shared → Prop) → Shared → Prop) (s : Shared) : Prop := ∀ i j C, i < n → j < n → C (O.blt (K i) (K j)) s → cmp i j C s

theorem asc_ok (hc : Ans K n cmp s) (hn : 0 < n) {p : Array Nat} (hp : PermR n p) {Q : Nat → Shared → Prop} : ∀ (f m : Nat), 1 ≤ m → m + f ≤ n → Srt K p m →
    (∀ m', m ≤ m' → m' ≤ m + f → Srt K p m' → (m' < m + f → O.klt (KP K p m') (KP K p (m' - 1))) → Q m' s) → (kas_asc p f m).kasWp cmp Q s
  | 0, m, _, _, h, hQ => hQ m (Nat.le_refl _) (Nat.le_refl _) h fun q => absurd q (Nat.lt_irrefl _)
  | f + 1, m, h1, hm, h, hQ => by
    show cmp _ _ _ s
    refine hc _ _ _ (hp.lt hn) (hp.lt hn) ?_
    show (if O.blt (KP K p m) (KP K p (m - 1)) = true then KasT.ret m else kas_asc p f (m + 1)).kasWp cmp Q s
    by_cases hb : O.blt (KP K p m) (KP K p (m - 1)) = true
    · rw [if_pos hb]; exact hQ m (Nat.le_refl _) (by lia  ) h fun _ => hb
    · rw [if_neg hb]
      have hs : Srt K p (m + 1) := fun i j hij hj => by
        by_cases e : j = m
        · subst e
          by_cases e2 : i = j
          · subst e2; exact KeyOrd.kle_refl _
          · exact KeyOrd.kle_trans (h i (j - 1) (by lia  ) (by lia  )) (KeyOrd.kle_of_not_klt hb)
        · exact h i j hij (by lia  )
      exact asc_ok hc hn hp f (m + 1) (by lia  ) (by lia  ) hs fun m' a b c d => hQ m' (by lia  ) (by lia  ) c fun q => d (by lia  )

noncomputable def Blk (K : Nat → O.α) (p : Array Nat) (m q : Nat) : Prop := ∀ k, m ≤ k + q + 1 → k < m → KP K p k = KP K p (m - 1)
theorem desc_ok (hc : Ans K n cmp s) (hn : 0 < n) {Q : Array Nat × Nat × Nat → Shared → Prop} : ∀ (f : Nat) (p : Array Nat) (m q : Nat), PermR n p → 1 ≤ m → m + f ≤ n → q + 1 ≤ m → Dsc K p m → Blk K p m q →
    (∀ p' m' q', PermR n p' → m ≤ m' → m' ≤ m + f → q' + 1 ≤ m' → Dsc K p' m' → Blk K p' m' q' → Q (p', m', q') s) → (kas_desc f p m q).kasWp cmp Q s
  | 0, p, m, q, hp, h1, hm, hq, h, hb, hQ => hQ p m q hp (Nat.le_refl _) (Nat.le_refl _) hq h hb
  | f + 1, p, m, q, hp, h1, hm, hq, h, hb, hQ => by
    have hsz := hp.size
    have step : ∀ p', (∀ k, KP K p' k = KP K p k) → O.kle (KP K p m) (KP K p (m - 1)) → Dsc K p' (m + 1) := fun p' e hle i j hij hj => by
      rw [e, e]
      by_cases ej : j = m
      · subst ej
        by_cases e2 : i = j
        · subst e2; exact KeyOrd.kle_refl _
        · exact KeyOrd.kle_trans hle (h i (j - 1) (by lia  ) (by lia  ))
      · exact h i j hij (by lia  )
    have blk0 : ∀ p', Blk K p' (m + 1) 0 := fun p' k hk hk2 => by
      have : k = m := by lia  
      subst this; rfl
    show cmp _ _ _ s
    refine hc _ _ _ (hp.lt hn) (hp.lt hn) ?_
    show (if O.blt (KP K p m) (KP K p (m - 1)) = true then (if q > 0 then kas_desc f (kas_rev p (m - (q + 1)) m) (m + 1) 0 else kas_desc f p (m + 1) 0) else _).kasWp cmp Q s
    by_cases hb1 : O.blt (KP K p m) (KP K p (m - 1)) = true
    · rw [if_pos hb1]
      have hle : O.kle (KP K p m) (KP K p (m - 1)) := KeyOrd.kle_of_klt hb1
      by_cases hq0 : q > 0
      · rw [if_pos hq0]
        have e : ∀ k, KP K (kas_rev p (m - (q + 1)) m) k = KP K p k := KP_rev_same (by lia  ) fun k a b => hb k (by lia  ) b
        exact desc_ok hc hn f _ (m + 1) 0 (rev_perm hp _ _) (by lia  ) (by lia  ) (by lia  ) (step _ e hle) (blk0 _) fun p' m' q' a b c d => hQ p' m' q' a (by lia  ) (by lia  ) d
      · rw [if_neg hq0]
        exact desc_ok hc hn f p (m + 1) 0 hp (by lia  ) (by lia  ) (by lia  ) (step _ (fun _ => rfl) hle) (blk0 _) fun p' m' q' a b c d => hQ p' m' q' a (by lia  ) (by lia  ) d
    · rw [if_neg hb1]
      show cmp _ _ _ s
      refine hc _ _ _ (hp.lt hn) (hp.lt hn) ?_
      show (if O.blt (KP K p (m - 1)) (KP K p m) = true then KasT.ret (p, m, q) else kas_desc f p (m + 1) (q + 1)).kasWp cmp Q s
      by_cases hb2 : O.blt (KP K p (m - 1)) (KP K p m) = true
      · rw [if_pos hb2]; exact hQ p m q hp (Nat.le_refl _) (by lia  ) hq h hb
      · rw [if_neg hb2]
        have heq : KP K p m = KP K p (m - 1) := KeyOrd.kle_antisymm (KeyOrd.kle_of_not_klt hb2) (KeyOrd.kle_of_not_klt hb1)
        refine desc_ok hc hn f p (m + 1) (q + 1) hp (by lia  ) (by lia  ) (by lia  ) (step _ (fun _ => rfl) (KeyOrd.kle_of_not_klt hb2)) (fun k a b => ?_) fun p' m' q' a b c d => hQ p' m' q' a (by lia  ) (by lia  ) d
        show KP K p k = KP K p m
        by_cases e : k = m
        · rw [e]
        · rw [heq]; exact hb k (by lia  ) (by lia  )

/-- what the counting of the first run hands on -/
noncomputable def CntOut (K : Nat → O.α) (n : Nat) (r : Nat × Array Nat) : Prop := PermR n r.2 ∧ 1 ≤ r.1 ∧ r.1 ≤ n ∧ Srt K r.2 r.1
theorem tail3_ok (hc : Ans K n cmp s) (hn : 0 < n) {p : Array Nat} {m : Nat} {Q : Nat × Array Nat → Shared → Prop} (hp : PermR n p) (h1 : 1 ≤ m) (hm : m ≤ n) (h : Dsc K p m) (hQ : ∀ r, CntOut K n r → Q r s) : (kas_tail3 m n p).kasWp cmp Q s := by
  unfold kas_tail3
  rw [KasT.kasWp_bind]
  have hsz := hp.size
  have hs : Srt K (kas_rev p 0 m) m := fun i j hij hj => by
    rw [KP_rev (by lia  ), KP_rev (by lia  ), if_pos ⟨Nat.zero_le _, by lia  ⟩, if_pos ⟨Nat.zero_le _, by lia  ⟩]
    exact h (0 + m - 1 - j) (0 + m - 1 - i) (by lia  ) (by lia  )
  exact asc_ok hc hn (rev_perm hp 0 m) (n - m) m h1 (by lia  ) hs fun m' a b c _ => hQ (m', kas_rev p 0 m) ⟨rev_perm hp 0 m, by lia  , by lia  , c⟩
theorem descPart_ok (hc : Ans K n cmp s) (hn : 0 < n) {p : Array Nat} {m : Nat} {Q : Nat × Array Nat → Shared → Prop} (hp : PermR n p) (h1 : 1 ≤ m) (hm : m + 1 ≤ n) (h : Dsc K p (m + 1)) (hQ : ∀ r, CntOut K n r → Q r s) : (kas_descPart m n p).kasWp cmp Q s := by
  unfold kas_descPart
  rw [KasT.kasWp_bind]
  refine desc_ok hc hn (n - (m + 1)) p (m + 1) 0 hp (by lia  ) (by lia  ) (by lia  ) h (fun k a b => by have : k = m := by { lia   }; subst this; rfl) fun p' m' q' a b c d e f => ?_
  have hsz := a.size
  show (if q' > 0 then kas_tail3 m' n (kas_rev p' (m' - (q' + 1)) m') else kas_tail3 m' n p').kasWp cmp Q s
  by_cases hq : q' > 0
  · rw [if_pos hq]
    have eq : ∀ k, KP K (kas_rev p' (m' - (q' + 1)) m') k = KP K p' k := KP_rev_same (by lia  ) fun k x y => f k (by lia  ) y
    exact tail3_ok hc hn (rev_perm a _ _) (by lia  ) (by lia  ) (fun i j x y => by rw [eq, eq]; exact e i j x y) hQ
  · rw [if_neg hq]
    exact tail3_ok hc hn a (by lia  ) (by lia  ) e hQ
theorem count_ok (hc : Ans K n cmp s) (hn : 0 < n) {p : Array Nat} {Q : Nat × Array Nat → Shared → Prop} (hp : PermR n p) (hQ : ∀ r, CntOut K n r → Q r s) : (kas_count n p).kasWp cmp Q s := by
  unfold kas_count
  rw [KasT.kasWp_bind]
  have hsz := hp.size
  refine asc_ok hc hn hp (n - 1) 1 (Nat.le_refl _) (by lia  ) (fun i j a b => by have : i = j := by { lia   }; subst this; exact KeyOrd.kle_refl _) fun m a b c d => ?_
  show (if (m == n) = true then KasT.ret (m, p) else if m > 1 then .ask (p.getD 0 0) (p.getD (m - 1) 0) fun c => if c = true then .ret (m, p) else kas_descPart m n (kas_rev p 0 m) else kas_descPart m n p).kasWp cmp Q s
  by_cases e1 : m = n
  · subst e1
    rw [if_pos (by simp)]
    exact hQ _ ⟨hp, a, Nat.le_refl _, c⟩
  · rw [if_neg (by simpa using e1)]
    have hlt := d (by lia  )
    by_cases e2 : m > 1
    · rw [if_pos e2]
      show cmp _ _ _ s
      refine hc _ _ _ (hp.lt hn) (hp.lt hn) ?_
      show (if O.blt (KP K p 0) (KP K p (m - 1)) = true then KasT.ret (m, p) else kas_descPart m n (kas_rev p 0 m)).kasWp cmp Q s
      by_cases e3 : O.blt (KP K p 0) (KP K p (m - 1)) = true
      · rw [if_pos e3]; exact hQ _ ⟨hp, a, by show m ≤ n; lia  , c⟩
      · rw [if_neg e3]
        have same : ∀ k, 0 ≤ k → k < m → KP K p k = KP K p (m - 1) := fun k _ hk =>
          KeyOrd.kle_antisymm (c k (m - 1) (by lia  ) (by lia  )) (KeyOrd.kle_trans (KeyOrd.kle_of_not_klt e3) (c 0 k (Nat.zero_le _) hk))
        have eq : ∀ k, KP K (kas_rev p 0 m) k = KP K p k := KP_rev_same (by lia  ) same
        refine descPart_ok hc hn (rev_perm hp 0 m) a (by lia  ) (fun i j x y => ?_) hQ
        rw [eq, eq]
        by_cases e4 : j = m
        · subst e4
          by_cases e5 : i = j
          · subst e5; exact KeyOrd.kle_refl _
          · rw [same i (Nat.zero_le _) (by lia  )]; exact KeyOrd.kle_of_klt hlt
        · rw [same i (Nat.zero_le _) (by lia  ), same j (Nat.zero_le _) (by lia  )]; exact KeyOrd.kle_refl _
    · rw [if_neg e2]
      obtain rfl : m = 1 := by lia  
      refine descPart_ok hc hn hp a (by lia  ) (fun i j x y => ?_) hQ
      by_cases e4 : i = j
      · subst e4; exact KeyOrd.kle_refl _
      · obtain rfl : i = 0 := by lia  
        obtain rfl : j = 1 := by lia  
        exact KeyOrd.kle_of_klt hlt
theorem place_ok (hc : Ans K n cmp s) (hn : 0 < n) {p : Array Nat} (hp : PermR n p) {k : Nat} (hs : Srt K p k) {Q : Nat → Shared → Prop} : ∀ (f l r : Nat), l ≤ r → r ≤ k → r - l ≤ f →
    (∀ i, i < l → O.kle (KP K p i) (KP K p k)) → (∀ i, r ≤ i → i < k → O.klt (KP K p k) (KP K p i)) →
    (∀ l, l ≤ k → (∀ i, i < l → O.kle (KP K p i) (KP K p k)) → (∀ i, l ≤ i → i < k → O.klt (KP K p k) (KP K p i)) → Q l s) → (kas_place p k f l r).kasWp cmp Q s
  | 0, l, r, hlr, hrk, hf, h1, h2, hQ => by
    obtain rfl : l = r := by lia  
    exact hQ l hrk h1 h2
  | f + 1, l, r, hlr, hrk, hf, h1, h2, hQ => by
    show (if l ≥ r then KasT.ret l else .ask (p.getD k 0) (p.getD ((l + r) / 2) 0) fun c => if c = true then kas_place p k f l ((l + r) / 2) else kas_place p k f ((l + r) / 2 + 1) r).kasWp cmp Q s
    by_cases e : l ≥ r
    · rw [if_pos e]
      obtain rfl : l = r := by lia  
      exact hQ l hrk h1 h2
    · rw [if_neg e]
      show cmp _ _ _ s
      refine hc _ _ _ (hp.lt hn) (hp.lt hn) ?_
      show (if O.blt (KP K p k) (KP K p ((l + r) / 2)) = true then kas_place p k f l ((l + r) / 2) else kas_place p k f ((l + r) / 2 + 1) r).kasWp cmp Q s
      by_cases e2 : O.blt (KP K p k) (KP K p ((l + r) / 2)) = true
      · rw [if_pos e2]
        exact place_ok hc hn hp hs f l _ (by lia  ) (by lia  ) (by lia  ) h1 (fun i a b => KeyOrd.klt_of_klt_of_kle e2 (hs _ i a b)) hQ
      · rw [if_neg e2]
        exact place_ok hc hn hp hs f _ r (by lia  ) hrk (by lia  ) (fun i a => KeyOrd.kle_trans (hs i ((l + r) / 2) (by lia  ) (by lia  )) (KeyOrd.kle_of_not_klt e2)) h2 hQ
theorem bin_ok (hc : Ans K n cmp s) (hn : 0 < n) {Q : Array Nat → Shared → Prop} : ∀ (f : Nat) (p : Array Nat) (k : Nat), PermR n p → 1 ≤ k → k + f = n → Srt K p k → (∀ p, PermR n p → Srt K p n → Q p s) → (kas_bin f p k).kasWp cmp Q s
  | 0, p, k, hp, _, hk, hs, hQ => hQ p hp (by obtain rfl : k = n := hk; exact hs)
  | f + 1, p, k, hp, h1, hk, hs, hQ => by
    have hsz := hp.size
    show ((kas_place p k k 0 k).bind fun l => kas_bin f (bubble p k (k - l)) (k + 1)).kasWp cmp Q s
    rw [KasT.kasWp_bind]
    refine place_ok hc hn hp hs k 0 k (Nat.zero_le _) (Nat.le_refl _) (by lia  ) (fun i h => by lia  ) (fun i a b => by lia  ) fun l hl a b => ?_
    have hb := KP_bub (K := K) (p := p) (k := k) (d := k - l) (by lia  ) (by lia  )
    have el : k - (k - l) = l := by lia  
    refine bin_ok hc hn f _ (k + 1) (hp.of (bubble_perm _ _ _)) (by lia  ) (by lia  ) (fun i j hij hj => ?_) hQ
    rw [hb, hb, el]
    by_cases i1 : i = l
    · rw [if_pos i1]
      by_cases j1 : j = l
      · rw [if_pos j1]; exact KeyOrd.kle_refl _
      · rw [if_neg j1, if_pos ⟨by lia  , by lia  ⟩]; exact KeyOrd.kle_of_klt (b (j - 1) (by lia  ) (by lia  ))
    · rw [if_neg i1]
      by_cases i2 : l < i ∧ i ≤ k
      · rw [if_pos i2, if_neg (by lia  ), if_pos ⟨by lia  , by lia  ⟩]; exact hs (i - 1) (j - 1) (by lia  ) (by lia  )
      · rw [if_neg i2]
        by_cases j1 : j = l
        · rw [if_pos j1]; exact a i (by lia  )
        · rw [if_neg j1]
          by_cases j2 : l < j ∧ j ≤ k
          · rw [if_pos j2]; exact hs i (j - 1) (by lia  ) (by lia  )
          · rw [if_neg j2]; exact hs i j hij (by lia  )
theorem sort_ok (hc : Ans K n cmp s) (hn : 0 < n) {Q : Array Nat → Shared → Prop} (hQ : ∀ p, PermR n p → Srt K p n → Q p s) : (kas_sort n).kasWp cmp Q s := by
  unfold kas_sort
  rw [KasT.kasWp_bind]
  refine count_ok hc hn (by show (List.range n).Perm _; exact .refl _) fun r ⟨h1, h2, h3, h4⟩ => ?_
  by_cases e : r.1 < n
  · rw [if_pos e]
    exact bin_ok hc hn _ _ _ h1 (by lia  ) (by lia  ) (by rw [show max r.1 1 = r.1 by lia  ]; exact h4) hQ
  · rw [if_neg e]
    obtain e2 : r.1 = n := by lia  
    exact hQ _ h1 (e2 ▸ h4)
end
end Mine
end
section
open PySem PySem.W PyProof.Rows
set_option maxRecDepth 100000
namespace Mine
/-! sorted() of a list of int lists -/
theorem ll_irrefl : ∀ a : List Int, ¬ a < a
  | [] => by simp
  | x :: a => by rw [List.cons_lt_cons_iff]; exact fun h => h.elim (Int.lt_irrefl _) fun q => ll_irrefl a q.2
theorem ll_trans : ∀ a b c : List Int, a < b → b < c → a < c
  | _, [], _, h, _ => by simp at h
  | _, _, [], _, h => by simp at h
  | [], _ :: _, z :: c, _, _ => by simp
  | x :: a, y :: b, z :: c, h1, h2 => by
    rw [List.cons_lt_cons_iff] at *
    rcases h1 with h1 | ⟨rfl, h1⟩
    · rcases h2 with h2 | ⟨rfl, h2⟩
      · exact .inl (Int.lt_trans h1 h2)
      · exact .inl h1
    · rcases h2 with h2 | ⟨rfl, h2⟩
      · exact .inl h2
      · exact .inr ⟨rfl, ll_trans a b c h1 h2⟩
theorem ll_total : ∀ a b : List Int, ¬ a < b → ¬ b < a → a = b
  | [], [], _, _ => rfl
  | [], y :: b, h, _ => by simp at h
  | x :: a, [], _, h => by simp at h
  | x :: a, y :: b, h1, h2 => by
    rw [List.cons_lt_cons_iff] at *
    have e : x = y := by
      have a1 : ¬ x < y := fun q => h1 (.inl q)
      have a2 : ¬ y < x := fun q => h2 (.inl q)
      lia  
    subst e
    rw [ll_total a b (fun q => h1 (.inr ⟨rfl, q⟩)) fun q => h2 (.inr ⟨rfl, q⟩)]
theorem ll_neg (a b c : List Int) (h : a < c) : a < b ∨ b < c := by
  by_cases h1 : a < b
  · exact .inl h1
  · by_cases h2 : b < a
    · exact .inr (ll_trans _ _ _ h2 h)
    · rw [← ll_total a b h1 h2]; exact .inr h
noncomputable def llOrd : KeyOrd where
  α := List Int
  blt a b := decide (a < b)
  irrefl a := by simpa using ll_irrefl a
  trans a b c h1 h2 := by simp at *; exact ll_trans a b c h1 h2
  negTrans a b c h := by simp at *; exact ll_neg a b c h
  total a b h1 h2 := ll_total a b (by simpa using h1) (by simpa using h2)
noncomputable def SortedL (ks : List (List Int)) : Prop := ks.Pairwise fun a b => ¬ b < a
theorem sorted_same {a b : List (List Int)} (p : a.Perm b) (ha : SortedL a) (hb : SortedL b) : a = b :=
  List.Perm.eq_of_pairwise (fun x y _ _ h1 h2 => ll_total x y h2 h1) ha hb p

theorem All2.pick {α : Type} {R : Value → α → Prop} {vs : List Value} {xs : List α} (h : All2 R vs xs) (d : α) : ∀ p : List Nat, (∀ i ∈ p, i < xs.length) → All2 R (p.map fun i => vs.getD i Value.none) (p.map fun i => xs.getD i d)
  | [], _ => .nil
  | i :: p, hp => by
    have hi := hp i (.head _)
    obtain ⟨v, hv, r⟩ := h.get' (List.getElem?_eq_getElem hi)
    refine .cons ?_ (h.pick d p fun j hj => hp j (.tail _ hj))
    show R (vs.getD i Value.none) (xs.getD i d)
    rw [List.getD_eq_getElem?_getD, List.getD_eq_getElem?_getD, hv, List.getElem?_eq_getElem hi]
    exact r
theorem perm_pick {α : Type} (xs : List α) (d : α) {p : List Nat} (h : p.Perm (List.range xs.length)) : (p.map fun i => xs.getD i d).Perm xs := by
  have := h.map fun i => xs.getD i d
  have e : (List.range xs.length).map (fun i => xs.getD i d) = xs := by
    apply List.ext_getElem
    · simp
    · intro i h1 h2; simp [h2]
  rw [e] at this; exact this

section
variable {prog : Program} {w : World} {A : Around} {E : Value → Shared → Prop} {s : Shared}
theorem ints_type {M : Model} {h : Heap} {v : Value} {l : List Int} (hv : Ints h v l) : Looks M h (typeOf v) (.type "list") := by
  obtain ⟨a, vs, n, rfl, e, _⟩ := hv
  exact (Looks.ld e).andThen .now
theorem list_sort_lists {a : Addr} {vs : List Value} {ls : List (List Int)} {n : Nat} {P : PySem.Fin → Shared → Prop} (ho : s.heap.get? a = some (seqObj "list" vs.toArray n)) (hall : All2 (Ints s.heap) vs ls) (hna : ∀ l us k, s.heap.get? l = some (lst us k) → .ref l ∈ vs → l ≠ a)
    (h64 : ls.length < 64) (R : A.units + 64 < cLine)
    (h : ∀ p : List Nat, p.Perm (List.range ls.length) → SortedL (p.map fun i => ls.getD i []) → P (.done (.ret .none)) { s with heap := sortedHeap s.heap a vs (p.map fun i => vs.getD i Value.none).toArray }) :
    wpAny (model prog w) A (Builtin.«list.sort» ⟨[.ref a], []⟩) P E s := by
  have hvl := hall.len
  have hz : vs.length ≤ sizeLine := by rw [sizeLine_eq]; lia  
  have ha : a < s.heap.objs.size := Heap.lt_size ho
  have s1 := Heap.SameBut.update s.heap a (Obj.mapSeq fun _ => (#[] : Array Value))
  obtain ⟨e1, ho1⟩ : ∃ e1, (s.heap.update a (Obj.mapSeq fun _ => (#[] : Array Value))).get? a = some (seqObj "list" #[] e1) := ⟨_, get?_update_seq ho fun _ => #[]⟩
  have ho6 := Heap.get?_push_of_some (seqObj "list" #[] 0) (Heap.get?_push_of_some (seqObj "tuple" vs.toArray 0) ho1)
  have k6 : ∀ b o, b ≠ a → s.heap.get? b = some o → (((s.heap.update a (Obj.mapSeq fun _ => (#[] : Array Value))).push (seqObj "tuple" vs.toArray 0)).push (seqObj "list" #[] 0)).get? b = some o :=
    fun b o hb e => Heap.get?_push_of_some _ (Heap.get?_push_of_some _ ((s1.2 b hb).trans e))
  have hall6 : All2 (Ints (((s.heap.update a (Obj.mapSeq fun _ => (#[] : Array Value))).push (seqObj "tuple" vs.toArray 0)).push (seqObj "list" #[] 0))) vs ls := by
    have go : ∀ {us : List Value} {ks : List (List Int)}, All2 (Ints s.heap) us ks → (∀ u ∈ us, u ∈ vs) → All2 (Ints (((s.heap.update a (Obj.mapSeq fun _ => (#[] : Array Value))).push (seqObj "tuple" vs.toArray 0)).push (seqObj "list" #[] 0))) us ks := by
      intro us ks x
      induction x with
      | nil => intro _; exact .nil
      | cons r _ ih =>
        intro hu
        obtain ⟨b, ws, k, rfl, e, q⟩ := r
        exact .cons ⟨b, ws, k, rfl, k6 b _ (hna b ws k e (hu _ (.head _))) e, q⟩ (ih fun u hu' => hu u (.tail _ hu'))
    exact go hall fun _ h => h
  rw [list_sort_plain]
  refine wpAny_bind (listItems_at ho rfl ?_)
  refine wpAny_bind (listUpdate_at ho rfl ?_ (by rw [List.size_toArray]; exact hz) (Nat.zero_le _))
  refine wpAny_bind (seqEpoch_at ho1 rfl ?_)
  refine wpAny_bind (wpAny_newTuple ?_ (by show vs.length ≤ _; exact hz))
  refine wpAny_bind (wpAny_newList ?_ (Nat.zero_le _))
  refine wpAny_holding ?_
  show wpAny (model prog w) A _ P E { s with heap := ((s.heap.update a (Obj.mapSeq fun _ => (#[] : Array Value))).push (seqObj "tuple" vs.toArray 0)).push (seqObj "list" #[] 0) }
  dsimp only
  by_cases h2 : vs.toArray.size < 2
  · rw [if_pos h2, if_pos h2]
    refine wpAny_bind (wpAny_pure ?_)
    rw [StateT.run_pure]
    refine wpAny_bind (wpAny_pure ?_)
    dsimp only
    have e0 : (arrOf (SortSt.mk' general' (vs.toArray.zip vs.toArray) #[] 7 none)).map (·.2) = (((List.range ls.length).map fun i => vs.getD i Value.none).toArray) := by
      apply Array.toList_inj.mp
      show ((vs.toArray.zip vs.toArray).map (·.2)).toList = _
      apply List.ext_getElem
      · simp; lia  
      · intro i h1 h3; simp at h1; simp [h1]
    rw [e0]
    refine wpAny_bind (seqEpoch_at ho6 rfl ?_)
    refine wpAny_bind (listUpdate_at ho6 rfl ?_ (Nat.zero_le _) (by rw [List.size_toArray, List.length_map, List.length_range, sizeLine_eq]; lia  ))
    simp only [bne_self_eq_false, Bool.false_eq_true, if_false]
    refine wpAny_pure (h _ (.refl _) ?_)
    have hl1 : ls.length < 2 := by simpa [hvl] using h2
    match ls, hl1 with
    | [], _ => exact List.Pairwise.nil
    | [l], _ => exact List.pairwise_singleton _ _
    | _ :: _ :: _, q => simp at q; lia  
  · rw [if_neg h2, if_neg h2]
    have hv2 : 2 ≤ vs.length := by simpa using h2
    refine wpAny_bind (kas_kind (T := .type "list") hv2 (fun v hv => ?_) (by decide) (by decide) ?_)
    · obtain ⟨i, hi, rfl⟩ := List.getElem_of_mem hv
      obtain ⟨_, r⟩ := all2_at hall6 hi
      exact ints_type r
    have est : SortSt.mk' oneType' (vs.toArray.zip vs.toArray) #[] 7 none = kas_st oneType' (pairsOf vs) (List.toArray (List.range vs.length)) := by
      have e := kas_range (pairsOf vs)
      rw [pairsOf_size] at e
      show SortSt.mk' oneType' (pairsOf vs) #[] 7 none = SortSt.mk' oneType' ((List.toArray (List.range vs.length)).map (kas_item (pairsOf vs))) #[] 7 none
      rw [e]
    rw [est]
    have ans : Ans (O := llOrd) (fun i => ls.getD i []) vs.length (kas_cmp prog w A oneType' (pairsOf vs)) { s with heap := ((s.heap.update a (Obj.mapSeq fun _ => (#[] : Array Value))).push (seqObj "tuple" vs.toArray 0)).push (seqObj "list" #[] 0) } := by
      intro i j C hi hj hC
      unfold kas_cmp
      rw [kas_item_eq, kas_item_eq]
      obtain ⟨hi', ri⟩ := all2_at hall6 hi
      obtain ⟨hj', rj⟩ := all2_at hall6 hj
      have gi : ls.getD i [] = ls[i] := by simp [hi']
      have gj : ls.getD j [] = ls[j] := by simp [hj']
      have vi : vs.getD i Value.none = vs[i] := by simp [hi]
      have vj : vs.getD j Value.none = vs[j] := by simp [hj]
      have hC' : C (decide (ls.getD i [] < ls.getD j [])) _ := hC
      rw [gi, gj] at hC'
      rw [vi, vj]
      exact oneLt_lists ri rj (by lia  ) hC'
    have tree := sort_ok ans (by lia  ) (Q := fun p s' => (PermR vs.length p ∧ Srt (O := llOrd) (fun i => ls.getD i []) p vs.length) ∧ s' = { s with heap := ((s.heap.update a (Obj.mapSeq fun _ => (#[] : Array Value))).push (seqObj "tuple" vs.toArray 0)).push (seqObj "list" #[] 0) }) fun p a b => ⟨⟨a, b⟩, rfl⟩
    have run := kas_runs (E := E) (Q := fun _ st' s' => ∃ p : Array Nat, arrOf st' = p.map (kas_item (pairsOf vs)) ∧ failedOf st' = none ∧ (PermR vs.length p ∧ Srt (O := llOrd) (fun i => ls.getD i []) p vs.length) ∧ s' = _)
      hv2 (by lia  ) (fun p' st' s' a1 a2 a3 a4 => ⟨p', a2, a3, a4.1, a4.2⟩) tree
    refine wpAny_bind (wpAny_mono run ?_ fun _ _ e => e)
    rintro ⟨⟨⟩, st'⟩ s' ⟨p, har, hf, ⟨hp, hsr⟩, rfl⟩
    dsimp only
    have hout : (arrOf st').map (·.2) = List.toArray (p.toList.map fun i => vs.getD i Value.none) := by
      apply Array.toList_inj.mp
      rw [har, Array.map_map, Array.toList_map]
      exact List.map_congr_left fun i _ => by show (kas_item (pairsOf vs) i).2 = _; rw [kas_item_eq]
    have hps := hp.size
    rw [hout]
    refine wpAny_bind (seqEpoch_at ho6 rfl ?_)
    refine wpAny_bind (listUpdate_at ho6 rfl ?_ (Nat.zero_le _) (by rw [List.size_toArray, List.length_map, Array.length_toList, hps, sizeLine_eq]; lia  ))
    rw [hf]
    simp only [bne_self_eq_false, Bool.false_eq_true, if_false]
    refine wpAny_pure (h p.toList (hvl ▸ hp) ?_)
    unfold SortedL
    rw [List.pairwise_iff_getElem]
    intro i j hi hj hij
    simp only [List.length_map, Array.length_toList] at hi hj
    have := hsr i j (by lia  ) (by lia  )
    have gi : p.getD i 0 = p[i] := by simp [Array.getD, hi]
    have gj : p.getD j 0 = p[j] := by simp [Array.getD, hj]
    have t : decide (ls.getD (p.getD j 0) [] < ls.getD (p.getD i 0) []) = false := this
    rw [gi, gj] at t
    simpa using t
end
section
variable {prog : Program} {w : World} {A : Around} {hp : Heap} {gs : Array GenState} {dr : Drawn} {tk : Nat} {os : OsState} {g : Heap} {Q : Value → Shared → Prop}
theorem sorted_spec {v : Value} {ls : List (List Int)} (hg : LE g hp) (hv : LL hp v ls) (h64 : ls.length < 64) (R : A.units + 64 + 10 < cLine)
    (h : ∀ g' h' u ks, Stp g hp g' h' → LL h' u ks → ks.Perm ls → SortedL ks → Q u ⟨h', gs, dr, tk, os⟩) : Wp prog w A (call (.builtin "sorted") [v]) Q ⟨hp, gs, dr, tk, os⟩ := by
  obtain ⟨l, vs, n, rfl, el, hall⟩ := hv
  have hvl := hall.len
  have hz : vs.length ≤ sizeLine := by rw [sizeLine_eq]; lia  
  refine ⟨?_⟩
  refine Calls.call_function_entry kind_sorted plain_sorted entry_sorted (args_sorted1 _) ?_
  unfold Builtin.«sorted»
  refine wpAny_bind (m := checkCount "sorted" 1 1 _) (wpAny_pure ?_)
  refine wpAny_bind (collect_list (s := ⟨hp, gs, dr, tk, os⟩) (isList_of el) ?_ hz)
  refine wpAny_bind (wpAny_newList ?_ hz)
  have hsz : ((hp.push (seqObj "list" #[] 0)).update hp.objs.size (Obj.mapSeq (· ++ vs.toArray))).objs.size = hp.objs.size + 1 := by
    rw [Heap.size_update, size_push']
  have hoL : (((hp.push (seqObj "list" #[] 0)).update hp.objs.size (Obj.mapSeq (· ++ vs.toArray))).push (seqObj "list" vs.toArray 0)).get? (hp.objs.size + 1) = some (seqObj "list" vs.toArray 0) := by
    rw [← hsz]; exact Heap.get?_push_size _ rfl
  have keep : LE hp (((hp.push (seqObj "list" #[] 0)).update hp.objs.size (Obj.mapSeq (· ++ vs.toArray))).push (seqObj "list" vs.toArray 0)) := fun b o q => by
    have hlt : b < hp.objs.size := Heap.lt_size q
    rw [Heap.get?_push_ne _ _ _ (by rw [hsz]; exact Nat.ne_of_lt (Nat.lt_succ_of_lt hlt)), Heap.get?_update_ne _ _ _ _ (Nat.ne_of_lt hlt), Heap.get?_push_ne _ _ _ (Nat.ne_of_lt hlt)]
    exact q
  show wpAny _ _ _ _ _ ⟨((hp.push (seqObj "list" #[] 0)).update hp.objs.size (Obj.mapSeq (· ++ vs.toArray))).push (seqObj "list" vs.toArray 0), gs, dr, tk, os⟩
  rw [hsz]
  generalize hH : ((hp.push (seqObj "list" #[] 0)).update hp.objs.size (Obj.mapSeq (· ++ vs.toArray))).push (seqObj "list" vs.toArray 0) = H at hoL keep
  have hHs : H.objs.size = hp.objs.size + 2 := by rw [← hH, Heap.size_push, hsz]
  refine wpAny_bind (wpAny_holding (wpAny_call_entry PyProof.Rows.slot_list_sort ⟨_, hoL, rfl⟩ PyProof.Rows.entry_list_sort (list_sort_lists (s := ⟨H, gs, dr, tk, os⟩) hoL (AllInts.mono keep hall) (fun a us k e hm q => ?_) h64 ?_ fun p hp2 hs => ⟨_, rfl, ?_⟩) (args_list_sort _)))
  · obtain ⟨i, hi, e2⟩ := List.getElem_of_mem hm
    obtain ⟨_, b, ws, m, e3, e4, _⟩ := all2_at hall hi
    rw [e2] at e3; injection e3 with e3
    subst e3 q
    exact absurd (Heap.lt_size e4) (Nat.not_lt.mpr (Nat.le_succ _))
  · show A.units + 1 + 1 + 64 < cLine; lia  
  · have hlen2 : p.length = ls.length := by have := hp2.length_eq; simpa using this
    have hfin : ∃ c, (sortedHeap H (hp.objs.size + 1) vs (p.map fun i => vs.getD i Value.none).toArray).get? (hp.objs.size + 1) = some (lst (p.map fun i => vs.getD i Value.none) c) := by
      obtain ⟨e1, ho1⟩ : ∃ e1, (H.update (hp.objs.size + 1) (Obj.mapSeq fun _ => (#[] : Array Value))).get? (hp.objs.size + 1) = some (seqObj "list" #[] e1) := ⟨_, get?_update_seq hoL fun _ => #[]⟩
      have ho6 := Heap.get?_push_of_some (seqObj "list" #[] 0) (Heap.get?_push_of_some (seqObj "tuple" vs.toArray 0) ho1)
      exact ⟨_, get?_update_seq ho6 fun _ => (p.map fun i => vs.getD i Value.none).toArray⟩
    have kfin : LE hp (sortedHeap H (hp.objs.size + 1) vs (p.map fun i => vs.getD i Value.none).toArray) := fun b o q => by
      have hlt : b < hp.objs.size := Heap.lt_size q
      unfold sortedHeap
      rw [Heap.get?_update_ne _ _ _ _ (Nat.ne_of_lt (Nat.lt_succ_of_lt hlt))]
      exact Heap.get?_push_of_some _ (Heap.get?_push_of_some _ (by rw [Heap.get?_update_ne _ _ _ _ (Nat.ne_of_lt (Nat.lt_succ_of_lt hlt))]; exact keep _ _ q))
    have sfin : hp.objs.size ≤ (sortedHeap H (hp.objs.size + 1) vs (p.map fun i => vs.getD i Value.none).toArray).objs.size := by
      unfold sortedHeap
      rw [Heap.size_update, Heap.size_push, Heap.size_push, Heap.size_update]; lia  
    obtain ⟨g', S, _⟩ := Stp.full hg kfin sfin
    obtain ⟨c, ec⟩ := hfin
    refine wpAny_pure ⟨_, rfl, h g' _ _ _ S ⟨_, _, c, rfl, ec, AllInts.mono kfin (hall.pick [] p fun i hi => ?_)⟩ (perm_pick ls [] hp2) hs⟩
    have := hp2.mem_iff.mp hi
    simpa using this
end
end Mine
end
section
open PySem PySem.W PyProof.Rows
set_option maxRecDepth 100000
open AutoSeq1 (wpAny_loadPart')
open MeetsSeq MeetsSeq2 MeetsSeq3 SeqRoads2
namespace Mine
theorem mro_object : mroOf (.type "object") = pure [.type "object"] := by kernel_rfl
theorem lookup_object_new : typeLookup (.type "object") "__new__" = pure (some (.builtin "object.__new__")) := by rw [typeLookup_type, builtinLookup_eq_fast]; kernel_rfl
theorem typeCall_object : checkTypeCall "object" ⟨[], []⟩ = pure () := by kernel_rfl
theorem newCall_object : checkBuiltinCall "object.__new__" ⟨[.type "object"], []⟩ = pure () := by kernel_rfl
theorem slot_object_init : Slot "object" "__init__" "object.__init__" :=
  .of (T := "object") (name := "__init__") (owner := "object") (n := "__init__") (by rw [typeLookup_type, builtinLookup_eq_fast]; kernel_rfl) (by decide +kernel) (by decide +kernel) (by decide +kernel)
    (.inl (by decide +kernel)) (by rw [isSubtype_type]; kernel_rfl)
theorem called_object : TypeCalled "object" "object.__new__" "object.__init__" :=
  ⟨by decide +kernel, by decide +kernel, ⟨_, _, mro_object⟩, madeBy_type mro_object lookup_object_new (by decide +kernel), by decide +kernel, by rw [isSubtype_type]; kernel_rfl, slot_object_init⟩
noncomputable abbrev nullObj : Obj := { cls := .type "object", data := .plain }
theorem madeHere_object : Bind.madeHere "object.__new__" (.type "object") = pure () := by
  unfold Bind.madeHere
  have e : Bind.staticBase (.type "object") = pure (.type "object") := by first | rfl | kernel_rfl
  rw [e]
  simp only [pure_bind, called_object.made]
  first | rfl | kernel_rfl | (simp; rfl)
theorem entryFor_object_new : entryFor table "object.__new__" = some Builtin.«object.__new__» := PySem.F.objNew.entry
theorem object_init_one {self : Value} : Meets (Builtin.«object.__init__» ⟨[self], []⟩) (fun _ R s => R (.ok (.ret .none)) s) :=
  Meets.of_wp fun prog w A R s hs => wpAny_pure ⟨_, rfl, hs⟩
theorem object_new_meets : Meets (Builtin.«object.__new__» ⟨[.type "object"], []⟩) (fun _ R s => R (.ok (.ret (.ref s.heap.objs.size))) { s with heap := s.heap.push nullObj }) :=
  .of_wp fun _ _ A R s h => by
    obtain ⟨hp, g, d, tk, os⟩ := s
    have hmh := madeHere_object
    have hit : isType (.type "object") = pure true := by first | rfl | kernel_rfl
    have hm : (Manifest.find? "object").elim false (fun x => x.mro.any fun t => (Manifest.find? t).elim false fun x => x.noNew) = false := by decide +kernel
    have h1 : typeHasDict (.type "object") = false := by first | rfl | decide +kernel
    have h2 : diesByItsTypesDel "object" = false := by first | rfl | decide +kernel
    wp_walk
    exact ⟨_, rfl, h⟩
section
variable {prog : Program} {w : World} {A : Around} {hp : Heap} {gs : Array GenState} {dr : Drawn} {tk : Nat} {os : OsState} {Q : Value → Shared → Prop}
theorem object_call (h : Q (.ref hp.objs.size) ⟨hp.push nullObj, gs, dr, tk, os⟩) : Wp prog w A (call (.type "object") []) Q ⟨hp, gs, dr, tk, os⟩ := by
  refine ⟨callType_meets (s := ⟨hp, gs, dr, tk, os⟩) (Q₁ := fun v s => v = .ref hp.objs.size ∧ s = ⟨hp.push nullObj, gs, dr, tk, os⟩) called_object typeCall_object newCall_object entryFor_object_new F.entry_object_init object_new_meets ⟨rfl, rfl⟩ ?_⟩
  rintro obj s₁ ⟨rfl, rfl⟩
  refine ⟨⟨_, Heap.get?_push_size _ rfl, rfl⟩, PySem.F.args_object_init_1 _, _, object_init_one, rfl, h⟩

theorem sub_list_object : isSubtype (.type "list") (.type "object") = pure true := by rw [isSubtype_type]; kernel_rfl
theorem sub_object_list : isSubtype (.type "object") (.type "list") = pure false := by rw [isSubtype_type]; kernel_rfl
theorem list_eq_declines_null (l b : Addr) (items : Array Value) (n : Nat) :
    Meets (Builtin.«list.__eq__» ⟨[.ref l, .ref b], []⟩) (fun _ R s => s.heap.get? l = some { cls := .type "list", dict := none, data := .seq items n, slots := #[] } ∧ s.heap.get? b = some nullObj ∧ R (.ok (.ret .notImplemented)) s) :=
  .of_wp fun _ _ A R s h => by obtain ⟨hp, g, d, tk, os⟩ := s; obtain ⟨hl, hb, h⟩ := h; have f1 := sub_object_list; wp_walk using wpAny_loadPart' hl, wpAny_loadPart' hb; exact ⟨_, rfl, h⟩
theorem null_eq_declines (l b : Addr) (ob : Obj) (hne : l ≠ b) :
    Meets (Builtin.«object.__eq__» ⟨[.ref l, .ref b], []⟩) (fun _ R s => s.heap.get? l = some nullObj ∧ s.heap.get? b = some ob ∧ R (.ok (.ret .notImplemented)) s) :=
  .of_wp fun prog w A R s h => by
    obtain ⟨hp, g, d, tk, os⟩ := s; obtain ⟨hl, hb, h⟩ := h
    unfold Builtin.«object.__eq__»
    refine wpAny_bind (m := slotArgs _ _ _) (wpAny_pure ?_)
    refine wpAny_bind (wpAny_isSame_ref_other hne hl hb (by simp) ?_)
    exact wpAny_pure ⟨_, rfl, h⟩
theorem null_eq {N l : Addr} {vs : List Value} {n : Nat} (hN : hp.get? N = some nullObj) (hl : hp.get? l = some (lst vs n)) (R : A.units < cLine) (h : Q (.bool false) ⟨hp, gs, dr, tk, os⟩) : Wp prog w A (compareOp .Eq (.ref N) (.ref l)) Q ⟨hp, gs, dr, tk, os⟩ := by
  have hne : N ≠ l := fun e => by subst e; rw [hN] at hl; exact absurd (congrArg Obj.cls (Option.some.inj hl)) (by simp)
  refine ⟨?_⟩
  show wpAny (model prog w) A (richCompare .Eq (.ref N) (.ref l)) Q _ _
  have ha : Shared.TypeIs ⟨hp, gs, dr, tk, os⟩ (.ref N) "object" := ⟨_, hN, rfl⟩
  have hb : Shared.TypeIs ⟨hp, gs, dr, tk, os⟩ (.ref l) "list" := ⟨_, hl, rfl⟩
  rcases hi : cmpInfo CmpOp.Eq with ⟨sym, f, r⟩
  have h1 := PySem.F.slot_object_eq
  have h2 := PySem.F.slot_list_eq_refl
  rw [hi] at h1 h2
  simp only [richCompare, hi, ha.oneThing_none]
  refine wpAny_holding ?_
  refine wpAny_bind (wpAny_cRoomFor_or (.inr R) ?_)
  refine wpAny_bind (wpAny_typeOf ha (wpAny_bind (wpAny_typeOf hb ?_)))
  have hne2 : (Value.type "object" != Value.type "list") = true := by decide
  simp only [hne2, if_true]
  refine wpAny_bind (wpAny_of_eq sub_list_object ?_)
  simp only [Bool.false_eq_true, if_false, Bool.not_true, if_true]
  refine wpAny_bind (m := tryCompare (.ref l) _ (.ref N)) (wpAny_tryCompare_declines hb h2 (call_meets PySem.F.slot_list_eq_refl hb PySem.F.entry_list_eq (PySem.F.args_list_eq_2 _ _) (list_eq_declines_null l N vs.toArray n) ⟨hl, hN, ⟨rfl, ?_⟩⟩))
  refine wpAny_bind (m := tryCompare (.ref N) _ (.ref l)) (wpAny_tryCompare_declines ha h1 (call_meets PySem.F.slot_object_eq ha PySem.F.entry_object_eq (PySem.F.args_object_eq_2 _ _) (null_eq_declines N l _ hne) ⟨hN, hl, ⟨rfl, ?_⟩⟩))
  exact wpAny_bind (wpAny_rule (wpAny_bind (wpAny_isSame_ref_other hne hN hl (by simp) (wpAny_pure h))))
end
end Mine
end
section
open PySem PySem.W PyProof.Rows
set_option maxRecDepth 100000
namespace Mine
/-- what is known of the class Mismatch, wherever the text's own objects stand -/
structure MM (w : World) (h : Heap) : Prop where
  sub : Looks (model pg w) h (isSubtype (.ref 163) (.type "tuple")) true
  self : Looks (model pg w) h (isSubtype (.ref 163) (.ref 163)) true
  mro : Looks (model pg w) h (mroOf (.ref 163)) [.ref 163, .type "tuple", .type "object"]
  init : Looks (model pg w) h (typeLookup (.ref 163) "__init__") (some (.builtin "object.__init__"))
  obj : ∃ oc od cd sl, h.get? 163 = some ⟨oc, od, .cls cd, sl⟩ ∧ sl[4]? = some (some .none) ∧ cd.hasDict = false ∧ cd.hasDel = false ∧ cd.bases = [.type "tuple"]
theorem mm_of {w : World} {h : Heap} (X : (KK w).In h) : MM w h where
  sub := looks_mroIn X (by rfl)
  self := looks_mroIn X (by rfl)
  mro := (looks_clsIn (K := KK w) X (C := 163) (by rfl)).andThen .now
  init := looks_findIn X (by rfl)
  obj := ⟨_, _, _, _, X 163 _ (by rfl), by rfl, by rfl, by rfl, by rfl⟩
theorem best_tuple : Builtin.Slots.bestBase [.type "tuple"] = pure (.type "tuple") := by first | rfl | kernel_rfl
theorem MM.made {w : World} {h : Heap} (Y : MM w h) : Looks (model pg w) h (Bind.madeBy (.ref 163)) none := by
  intro A Q E s k q
  obtain ⟨oc, od, cd, sl, hC, hs4, _⟩ := Y.obj
  unfold Bind.madeBy
  refine wpAny_bind (Y.mro A _ E s k ?_)
  rw [List.forIn_cons]
  refine wpAny_bind (wpAny_bind (wpAny_bind (wpAny_bind (wpAny_loadPart (k _ _ hC) (wpAny_pure ?_)))))
  dsimp only
  rw [hs4]
  exact wpAny_pure (wpAny_pure (wpAny_pure q))
theorem MM.base {w : World} {h : Heap} (Y : MM w h) : Looks (model pg w) h (Bind.staticBase (.ref 163)) (.type "tuple") := by
  intro A Q E s k q
  obtain ⟨oc, od, cd, sl, hC, hs4, _, _, hb⟩ := Y.obj
  unfold Bind.staticBase
  refine wpAny_bind (Y.mro A _ E s k ?_)
  rw [List.forIn_cons]
  refine wpAny_bind ?_
  refine wpAny_bind (wpAny_bind (Y.made A _ E s k ?_))
  simp only [Option.isSome_none, Bool.false_eq_true, if_false]
  have hcl : Looks (model pg w) h (classData 163) cd := (Looks.ld (part := none) hC).andThen .now
  refine wpAny_bind (hcl A _ E s k ?_)
  rw [hb]
  refine wpAny_bind (wpAny_of_eq best_tuple (wpAny_pure ?_))
  dsimp only
  rw [List.forIn_cons]
  refine wpAny_bind ?_
  refine wpAny_bind (wpAny_of_eq PySem.F.called_tuple.made ?_)
  simp only [Option.isSome_some, if_true]
  exact wpAny_pure (wpAny_pure (wpAny_pure q))
theorem MM.here {w : World} {h : Heap} (Y : MM w h) : Looks (model pg w) h (Bind.madeHere "tuple.__new__" (.ref 163)) () := by
  refine Y.base.andThen ?_
  intro A Q E s k q
  refine wpAny_bind (wpAny_of_eq PySem.F.called_tuple.made ?_)
  first
  | exact wpAny_pure q
  | (simp; exact wpAny_pure q)
theorem collect_tup {prog : Program} {w : World} {A : Around} {E : Value → Shared → Prop} {h : Heap} {gs : Array GenState} {dr : Drawn} {tk : Nat} {os : OsState} {t : Addr} {vs : List Value} {n : Nat} {Q : List Value → Shared → Prop} (ht : h.get? t = some (tup vs n)) (hz : vs.length ≤ sizeLine)
    (hQ : ∀ h', LE h h' → h.objs.size ≤ h'.objs.size → Q vs ⟨h', gs, dr, tk, os⟩) : wpAny (model prog w) A (collect (.ref t)) Q E ⟨h, gs, dr, tk, os⟩ := by
  unfold collect
  refine wpAny_bind (wpAny_runValue (codeAny_builtin entry_proto_collect' ?_))
  show wpAny _ _ (do again (.builtin "list.__iadd__" ⟨[← newList [], .ref t], []⟩)) _ _ _
  refine wpAny_bind (wpAny_newList (wpAny_pure ⟨Code.quiet_builtin _ (by decide +kernel), codeAny_builtin entry_list_iadd' ?_⟩) (Nat.zero_le _))
  show wpAny _ _ (Builtin.List.listExtendWith (.ref h.objs.size) (.ref t) (.ref h.objs.size)) _ _ ⟨h.push (seqObj "list" #[] 0), gs, dr, tk, os⟩
  have ht' := Heap.get?_push_of_some (seqObj "list" #[] 0) ht
  have hn : (h.push (seqObj "list" #[] 0)).get? h.objs.size = some (seqObj "list" #[] 0) := Heap.get?_push_size _ rfl
  unfold Builtin.List.listExtendWith
  refine wpAny_bind (wpAny_typeOf (T := "tuple") ⟨_, ht', rfl⟩ ?_)
  rw [if_pos (by rw [show (Value.type "tuple" == Value.type "tuple") = true from rfl]; simp)]
  refine wpAny_bind (listItems_at ht' rfl (wpAny_bind (listItems_at hn rfl ?_)))
  rw [if_neg (by simp)]
  refine wpAny_bind (listUpdate_at hn rfl ?_ (Nat.zero_le _) (by show (#[] ++ vs.toArray).size ≤ sizeLine + 1; simp only [Array.size_append, List.size_toArray, List.length_nil]; lia  ))
  refine wpAny_pure ?_
  show wpAny (model prog w) A (do
      let o ← load h.objs.size
      match o.data with
      | .seq xs _ => pure xs.toList
      | _ => unsupported "internal:collect") Q E ⟨(h.push (seqObj "list" #[] 0)).update h.objs.size (Obj.mapSeq (· ++ vs.toArray)), gs, dr, tk, os⟩
  refine wpAny_bind (wpAny_load (get?_update_seq hn _) ?_)
  show wpAny _ _ (pure ((#[] : Array Value) ++ vs.toArray).toList) Q E _
  rw [show ((#[] : Array Value) ++ vs.toArray).toList = vs by simp]
  refine wpAny_pure (hQ _ (fun b o e => ?_) ?_)
  · rw [Heap.get?_update_ne _ _ _ _ (Nat.ne_of_lt (Heap.lt_size e))]; exact Heap.get?_push_of_some _ e
  · rw [Heap.size_update, Heap.size_push]; exact Nat.le_succ _
/-- an object of the class Mismatch -/
noncomputable abbrev misObj (dx : Addr) (vs : List Value) : Obj := { cls := .ref 163, dict := some dx, data := .seq vs.toArray }
set_option maxHeartbeats 1000000 in
theorem mm_tuple_new {w : World} {A : Around} {E : Value → Shared → Prop} {h : Heap} {gs : Array GenState} {dr : Drawn} {tk : Nat} {os : OsState} {t : Addr} {vs : List Value} {n : Nat} {P : PySem.Fin → Shared → Prop} (Y : MM w h) (ht : h.get? t = some (tup vs n)) (hz : vs.length ≤ sizeLine)
    (hP : ∀ h', LE h h' → h.objs.size ≤ h'.objs.size → P (.done (.ret (.ref (h'.objs.size + 1)))) ⟨(h'.push { cls := .type "dict", data := .dict #[] }).push (misObj h'.objs.size vs), gs, dr, tk, os⟩) :
    wpAny (model pg w) A (Builtin.«tuple.__new__» ⟨[.ref 163, .ref t], []⟩) P E ⟨h, gs, dr, tk, os⟩ := by
  have y1 := Y.sub
  have y2 := Y.here
  have y3 := Y.init
  obtain ⟨oc, od, cd, sl, hC, hs4, hdc, hdel, hb⟩ := Y.obj
  have y4 : Looks (model pg w) h (isType (.ref 163)) true := (Looks.ld hC).andThen .now
  unfold Builtin.«tuple.__new__»
  repeat (first | (with_reducible refine collect_tup ht hz ?_) | lk)
  intro h' k' s'
  have hC' := Heap.get?_push_of_some (misObj h'.objs.size vs) (Heap.get?_push_of_some ({ cls := .type "dict", data := .dict #[] } : Obj) (k' _ _ hC))
  repeat lk
  rw [if_neg (by rw [List.size_toArray]; lia  )]
  unfold newObjAsIs classHasDel
  refine wpAny_bind (wpAny_alloc (wpAny_bind (wpAny_bind (wpAny_load hC' (wpAny_pure ?_)))))
  rw [hdel]
  refine wpAny_pure (wpAny_pure ?_)
  rw [Heap.size_push]
  exact hP h' k' s'
end Mine
end
section
open PySem PySem.W PyProof.Rows
set_option maxRecDepth 100000
namespace Mine
theorem tn_kind : builtinKind "tuple.__new__" = some .builtinFn := by decide +kernel
theorem tn_split : splitId "tuple.__new__" = some ("tuple", "__new__") := by decide +kernel
theorem tn_plain : plainId "tuple.__new__" = true := by decide +kernel
set_option maxHeartbeats 1000000 in
theorem mm_call_new {w : World} {A : Around} {h : Heap} {gs : Array GenState} {dr : Drawn} {tk : Nat} {os : OsState} {t : Addr} {vs : List Value} {n : Nat} {Q : Value → Shared → Prop} (Y : MM w h) (ht : h.get? t = some (tup vs n)) (hz : vs.length ≤ sizeLine)
    (hQ : ∀ h' x dx, LE h h' → h.objs.size ≤ h'.objs.size → h.objs.size ≤ x → h'.get? x = some (misObj dx vs) → Q (.ref x) ⟨h', gs, dr, tk, os⟩) :
    Wp pg w A (call (.builtin "tuple.__new__") [.ref 163, .ref t]) Q ⟨h, gs, dr, tk, os⟩ := by
  obtain ⟨oc, od, cd, sl, hC, hs4, hdc, hdel, hb⟩ := Y.obj
  have y1 := Y.sub
  have y2 := Y.base
  have y4 : Looks (model pg w) h (isType (.ref 163)) true := (Looks.ld hC).andThen .now
  have y5 : Looks (model pg w) h (Bind.madeBy (.type "tuple")) (some "tuple.__new__") := Looks.of_pure PySem.F.called_tuple.made
  refine ⟨wpAny_call ?_⟩
  refine codeAny_call_builtin_code (Code.quiet_builtin _ (by decide +kernel)) ?_
  simp only [checkBuiltinCall, tn_kind, tn_split]
  rw [if_pos (by decide)]
  repeat (first | simp only [bne_self_eq_false, Bool.false_eq_true, if_false] | lk)
  refine codeAny_builtin PySem.F.entry_tuple_new (mm_tuple_new Y ht hz fun h' k z => ?_)
  have kk : LE h ((h'.push { cls := .type "dict", data := .dict #[] }).push (misObj h'.objs.size vs)) := fun b o e => Heap.get?_push_of_some _ (Heap.get?_push_of_some _ (k _ _ e))
  refine hQ _ (h'.objs.size + 1) h'.objs.size kk (by rw [Heap.size_push, Heap.size_push]; lia  ) (by lia  ) ?_
  rw [← Heap.size_push h' { cls := .type "dict", data := .dict #[] }]
  exact Heap.get?_push_size _ rfl

section
variable {prog : Program} {w : World} {A : Around} {s : Shared} {hp : Heap} {gs : Array GenState} {dr : Drawn} {tk : Nat} {os : OsState} {env : Env}
theorem sDoc {x : Str} {k : Nat} {p pos : Pos} {Q : Flow → Shared → Prop} (hi : interactive env = false) (h : ∀ tk', Q .next ⟨hp, gs, dr, tk', os⟩) : Wp prog w A (exec (.Expr (.Constant (.str x) k p) pos) env) Q ⟨hp, gs, dr, tk, os⟩ :=
  ⟨wpAny_Expr_any (wpAny_Constant_str (h _)) hi (by rfl)⟩
end
theorem tt1 : typeOf (.type "tuple") = pure (.type "type") := by first | rfl | kernel_rfl
theorem tt2 (w : World) : findCls (KK w) (.type "tuple") (.type "type") "__new__" = some (.val (.builtin "tuple.__new__")) := by first | rfl | kernel_rfl
theorem tt3 : handedIn (.builtin "tuple.__new__") = true := by first | rfl | decide +kernel
noncomputable def nNew : List (Str × NameKind) := [("_cls", .local), ("actual", .local), ("expected", .local), ("value", .local), ("tuple", .globalImplicit)]
section
variable {w : World} {A : Around} {hp : Heap} {gs : Array GenState} {dr : Drawn} {tk : Nat} {os : OsState} {g : Heap}
theorem getm_tuple {h₀ : Heap} {L : Addr} {m : Str → Option Value} {pl : Sem Bool} {Q : Value × List Value → Shared → Prop} (F : Fr h₀ L hp m) (X : (KK w).In h₀) (h : Q (.builtin "tuple.__new__", []) ⟨hp, gs, dr, tk + 1, os⟩) :
    Wp pg w A (getMethod (.type "tuple") "__new__" pl) Q ⟨hp, gs, dr, tk, os⟩ := by
  constructor
  have e : Manifest.isStub "tuple" = false := by decide +kernel
  apply method_type (T := "tuple") (K := KK w) (h₀ := h₀) (L := L) (m := m)
  · exact F
  · exact X
  · exact tt1
  · exact e
  · exact tt2 w
  · exact tt3
  · exact h
theorem new_spec {a b c : Value} {Q : Value → Shared → Prop} (G : Gl (KK w) hp) (R : Rm A 1)
    (h : ∀ h' tk' x dx, LE hp h' → hp.objs.size ≤ h'.objs.size → hp.objs.size ≤ x → h'.get? x = some (misObj dx [a, b, c]) → Q (.ref x) ⟨h', gs, dr, tk', os⟩) :
    Wp pg w A (call (.ref 110) [.ref 163, a, b, c]) Q ⟨hp, gs, dr, tk, os⟩ := by
  refine enter (K := KK w) (fd := _) (names := nNew) (binds := [("_cls", .ref 163), ("actual", a), ("expected", b), ("value", c)]) (nms := ["_cls", "actual", "expected", "value"]) G (LE.rfl' (h := hp)) R.room (by rfl) (by rfl) (by rfl) (by rfl) (by rfl) (by rfl) (by rfl) (by decide) ?_ (by rfl) (by rfl) ?_
  · intro L x hx
    rcases List.mem_cons.mp hx with rfl | hx
    · exact .inl (by rfl)
    rcases List.mem_cons.mp hx with rfl | hx
    · exact .inl (by rfl)
    rcases List.mem_cons.mp hx with rfl | hx
    · exact .inl (by rfl)
    rcases List.mem_singleton.mp hx with rfl
    exact .inl (by rfl)
  · intro env L cs m cm h₁ tk₁ V hcs hm hcm B
    have R' : Rm (A.deeper env) 0 := R.deeper
    have h1 : m "_cls" = some (.ref 163) := hm _ (.head _) (by rfl)
    have h2 : m "actual" = some a := hm _ (.tail _ (.head _)) (by rfl)
    have h3 : m "expected" = some b := hm _ (.tail _ (.tail _ (.head _))) (by rfl)
    have h4 : m "value" = some c := hm _ (.tail _ (.tail _ (.tail _ (.head _)))) (by rfl)
    refine sCons (sDoc V.quiet fun tk2 => ?_)
    refine sCons (sRet ⟨methodCall_KW (Wp.three (nameB V (G.mono B.kp) (by rfl) (by rfl) bb_tuple ?_)) (by rfl)⟩)
    have F : Fr hp L h₁ m := ⟨B.ns, B.kp, B.sz⟩
    refine getm_tuple F G.X ?_
    refine Wp.of ?_
    refine Calls.callWith_builtin (by rfl) (Calls.evalArgs_plain (Wp.two ?_))
    refine argCons (nameL V B (by rfl) h1 (argCons (dispT (argCons (nameL V B (by rfl) h2 (argCons (nameL V B (by rfl) h3 (argCons (nameL V B (by rfl) h4 (argNil ⟨_, _, _, _, _, _, rfl, B.le, by simp [sizeLine_eq], fun g3 h3' T S3 e3 => ?_⟩)))))))))) 
    have B3 := B.pure S3
    refine argNil (mm_call_new (mm_of (G.mono B3.kp).X) (S3.le' _ _ e3) (by simp [sizeLine_eq]) fun h' x dx k z n e => ?_)
    exact h h' _ x dx (B3.kp.tr k) (Nat.le_trans B3.szh z) (Nat.le_trans B3.szh n) e
end
end Mine
end
section
open PySem PySem.W PyProof.Rows
set_option maxRecDepth 100000
namespace Mine
theorem mis_new_found (w : World) : findCls (KK w) (.ref 163) (.type "type") "__new__" = some (.get (.builtin "staticmethod.__get__") (.ref 164) .none (.ref 163)) := by rfl
theorem mis_reads (w : World) : readsIn (KK w) 163 (.type "type") = true := by first | rfl | kernel_rfl
theorem mis_rec (w : World) : recIn (KK w) 164 "staticmethod" = some [.ref 110] := by rfl
theorem mis_callf (w : World) : specialIn (KK w) (.ref 163) "__call__" = some (some (.builtin "type.__call__")) := by rfl
theorem mis_inst (w : World) : instIn (KK w) (.ref 163) (.type "type") = some true := by rfl
section
variable {w : World} {A : Around} {hp : Heap} {gs : Array GenState} {dr : Drawn} {tk : Nat} {os : OsState} {E : Value → Shared → Prop}
theorem mis_attr {expr : Bool} {Q : Value → Shared → Prop} (X : (KK w).In hp) (h : Q (.ref 110) ⟨hp, gs, dr, tk + 1, os⟩) : wpAny (model pg w) A (getAttr (.ref 163) "__new__" expr) Q E ⟨hp, gs, dr, tk, os⟩ := by
  apply cls_bind (K := KK w) (mc := .type "type")
  · exact X
  · exact mis_reads w
  · exact mis_new_found w
  · apply wpAny_call
    apply sm_get (K := KK w)
    · exact X
    · exact mis_rec w
    · exact handed_on rfl h
theorem oi_args4 (a b c d : Value) : argsOk "object.__init__" ⟨[a, b, c, d], []⟩ := by unfold argsOk; kernel_rfl
theorem tc_weight (args : List Value) : (Code.builtin "type.__call__" ⟨.ref 163 :: args, []⟩).weight = 1 := by rfl
theorem tc_units (args : List Value) : (Code.builtin "type.__call__" ⟨.ref 163 :: args, []⟩).cUnits = 1 := by rfl
theorem Rm.tc {k : Nat} {args : List Value} (R : Rm A (k + 1)) : Rm (A.under (.builtin "type.__call__" ⟨.ref 163 :: args, []⟩)) k :=
  ⟨R.hh, by have := R.dp; show A.depth + Code.weight _ + k < _; rw [tc_weight]; lia  , by have := R.un; show A.units + Code.cUnits _ + 3 * k + 200 < _; rw [tc_units]; lia  ⟩
set_option maxHeartbeats 1000000 in
theorem mis_call {a b c : Value} {Q : Value → Shared → Prop} (G : Gl (KK w) hp) (R : Rm A 3)
    (h : ∀ h' tk' x dx, LE hp h' → hp.objs.size ≤ h'.objs.size → hp.objs.size ≤ x → h'.get? x = some (misObj dx [a, b, c]) → Q (.ref x) ⟨h', gs, dr, tk', os⟩) :
    Wp pg w A (call (.ref 163) [a, b, c]) Q ⟨hp, gs, dr, tk, os⟩ := by
  have Y := mm_of G.X
  have y1 : Looks (model pg w) hp (specialOf (.ref 163) "__call__") (some (.builtin "type.__call__")) := looks_specialIn G.X (mis_callf w)
  have y2 : Looks (model pg w) hp (isInstance (.ref 163) (.type "type")) true := looks_instIn G.X (mis_inst w)
  have y3 := Y.mro
  have y4 := Y.made
  obtain ⟨oc, od, cd, sl, hC, hs4, hdc, hdel, hb⟩ := Y.obj
  refine ⟨wpAny_call (codeAny_of_tree ?_)⟩
  show wpAny _ _ (callAny (.ref 163) _) _ _ _
  refine nd_load hC ?_
  show wpAny _ _ (callAny.viaDunder (.ref 163) _) _ _ _
  unfold callAny.viaDunder
  refine wpAny_bind (y1.at ?_)
  dsimp only
  rw [tc_bind]
  refine wpAny_bind (wpAny_pure (wpAny_bind (wpAny_pure ?_)))
  refine wpAny_pure (a := Fin.again (.call (.builtin "type.__call__") ⟨.ref 163 :: [a, b, c], []⟩)) (And.intro rfl ?_)
  refine codeAny_call_builtin_at (Code.quiet_builtin _ (by decide +kernel)) entry_typeCall (check_slot tc_kind tc_split y2 (tc_args _ _ _) ?_)
  have R1 : Rm (A.under (.builtin "type.__call__" ⟨.ref 163 :: [a, b, c], []⟩)) 1 := (R.less (by lia   : 2 ≤ 3)).tc
  generalize A.under (.builtin "type.__call__" ⟨.ref 163 :: [a, b, c], []⟩) = A1 at R1 ⊢
  have step : ∀ (Q' : Value → Shared → Prop) (E' : Value → Shared → Prop) (tk' : Nat), (∀ h' tk' x dx, LE hp h' → hp.objs.size ≤ h'.objs.size → hp.objs.size ≤ x → h'.get? x = some (misObj dx [a, b, c]) → Q' (.ref x) ⟨h', gs, dr, tk', os⟩) →
      wpAny (model pg w) A1 (call (.ref 110) [.ref 163, a, b, c]) Q' E' ⟨hp, gs, dr, tk', os⟩ := fun Q' E' tk' hq => (new_spec G R1 hq).any
  unfold Builtin.«type.__call__»
  repeat (first | with_reducible refine mis_attr G.X ?_ | with_reducible refine step _ _ _ ?_ | lk)
  intro h' tk' x dx k z n e
  have G' := G.mono k
  have Y' := mm_of G'.X
  have t1 : Looks (model pg w) h' (typeOf (.ref x)) (.ref 163) := (Looks.ld e).andThen .now
  have t2 := Y'.self
  have t3 := Y'.init
  have t4 := Y'.made
  have t5 := oi_bind (.ref x)
  have t6 : Looks (model pg w) h' (isInstance (.ref x) (.type "object")) true := t1.andThen (looks_mroIn G'.X (by rfl))
  have step2 : ∀ (Q' : Value → Shared → Prop) (E' : Value → Shared → Prop), Q' .none ⟨h', gs, dr, tk', os⟩ → wpAny (model pg w) A1 (call (.builtin "object.__init__") [.ref x, a, b, c]) Q' E' ⟨h', gs, dr, tk', os⟩ := by
    intro Q' E' hq
    refine wpAny_call (codeAny_call_builtin oi_plain entry_oi (check_slot oi_kind oi_split t6 (oi_args4 _ _ _ _) ?_))
    unfold Builtin.«object.__init__»
    repeat lk
    exact hq
  unfold isInstance callSpecial? specialOf
  repeat (first | rw [t5] | ((with_reducible show wpAny _ _ (call (Value.builtin _) _ _) _ _ _); refine step2 _ _ ?_) | lk)
  exact h h' tk' x dx k z n e
end
end Mine
end
section
open PySem PySem.W PyProof.Rows PySem.SeqAt
open AutoSeq1 (wpAny_loadPart')
open MeetsSeq MeetsSeq2 MeetsSeq3 SeqRoads2
set_option maxRecDepth 100000
namespace Mine
/-- tuple.__eq__ of an object of any class that holds three items, and a plain tuple of three -/
theorem tup3_eq (l b : Addr) (o : Obj) (x1 x2 x3 y1 y2 y3 : Value) (n n2 : Nat) (hd : o.data = .seq #[x1, x2, x3] n) (e1 e2 e3 : Bool) :
    Meets (Builtin.«tuple.__eq__» ⟨[.ref l, .ref b], []⟩)
      (fun A R s => s.heap.get? l = some o ∧ s.heap.get? b = some (tup [y1, y2, y3] n2) ∧ EqAt A.in1 s x1 y1 e1 ∧ EqAt A.in1 s x2 y2 e2 ∧ EqAt A.in1 s x3 y3 e3 ∧ R (.ok (.ret (.bool (e1 && e2 && e3)))) s) :=
  .of_wp fun prog w A R s h => by
    obtain ⟨hp, g, d, tk, os⟩ := s; obtain ⟨hl, hb, h1, h2, h3, h⟩ := h
    have f2 := AutoSeq1.sub_tuple_tuple
    obtain ⟨c, dd, dt, sl⟩ := o
    obtain rfl : dt = .seq #[x1, x2, x3] n := hd
    wp_walk using wpAny_loadPart' hl, wpAny_loadPart' hb, wpAny_forIn_list _ (fun rest b s' => b.1 = none ∧ s' = ⟨hp, g, d, tk, os⟩ ∧
      ((rest = [(x1, y1), (x2, y2), (x3, y3)]) ∨ (rest = [(x2, y2), (x3, y3)] ∧ e1 = true) ∨ (rest = [(x3, y3)] ∧ e1 = true ∧ e2 = true) ∨ (rest = [] ∧ e1 = true ∧ e2 = true ∧ e3 = true))) _
    case turn =>
      rintro ⟨y, x⟩ rest b s' ⟨hb', rfl, hz⟩
      rcases hz with hz | ⟨hz, rfl⟩ | ⟨hz, rfl, rfl⟩ | ⟨hz, _⟩
      · injection hz with q1 q2; injection q1 with q1 q3; subst q1 q2 q3
        refine wpAny_bind (h1 prog w _ _ ?_)
        cases e1 with
        | true => wp_walk; exact ⟨rfl, rfl, .inr (.inl ⟨rfl, rfl⟩)⟩
        | false => wp_walk; exact ⟨_, rfl, by simpa using h⟩
      · injection hz with q1 q2; injection q1 with q1 q3; subst q1 q2 q3
        refine wpAny_bind (h2 prog w _ _ ?_)
        cases e2 with
        | true => wp_walk; exact ⟨rfl, rfl, .inr (.inr (.inl ⟨rfl, rfl, rfl⟩))⟩
        | false => wp_walk; exact ⟨_, rfl, by simpa using h⟩
      · injection hz with q1 q2; injection q1 with q1 q3; subst q1 q2 q3
        refine wpAny_bind (h3 prog w _ _ ?_)
        cases e3 with
        | true => wp_walk; exact ⟨rfl, rfl, .inr (.inr (.inr ⟨rfl, rfl, rfl, rfl⟩))⟩
        | false => wp_walk; exact ⟨_, rfl, by simpa using h⟩
      · cases hz
    case fin =>
      rintro ⟨b1, b2⟩ s' ⟨hb', rfl, hz⟩
      simp only at hb'
      subst hb'
      rcases hz with hz | ⟨hz, rfl⟩ | ⟨hz, rfl, rfl⟩ | ⟨hz, rfl, rfl, rfl⟩
      · cases hz
      · cases hz
      · cases hz
      · wp_walk
        exact ⟨_, rfl, by simpa [Builtin.Tuple.tupleCompareSizes] using h⟩
    case h =>
      exact ⟨rfl, rfl, .inl (by simp)⟩
end Mine
end
section
open PySem PySem.W PyProof.Rows PySem.SeqAt
set_option maxRecDepth 100000
namespace Mine
theorem te_bind (self : Value) : bindSpecial (.builtin "tuple.__eq__") self = pure (.builtin "tuple.__eq__", [self]) := PySem.F.slot_tuple_eq.bind self
theorem te_kind : builtinKind "tuple.__eq__" = some .slot := by decide +kernel
theorem te_split : splitId "tuple.__eq__" = some ("tuple", "__eq__") := by decide +kernel
theorem sub_tuple_163 : isSubtype (.type "tuple") (.ref 163) = pure false := by rw [isSubtype_type]; kernel_rfl
section
variable {w : World} {A : Around} {hp : Heap} {gs : Array GenState} {dr : Drawn} {tk : Nat} {os : OsState} {E : Value → Shared → Prop}
set_option maxHeartbeats 1000000 in
theorem mis_rc {x dx t : Addr} {x1 x2 x3 y1 y2 y3 : Value} {n : Nat} {e1 e2 e3 : Bool} {Q : Value → Shared → Prop} (X : (KK w).In hp) (hx : hp.get? x = some (misObj dx [x1, x2, x3])) (ht : hp.get? t = some (tup [y1, y2, y3] n)) (hu : A.units + 5 < cLine)
    (h1 : EqAt A.in1 ⟨hp, gs, dr, tk, os⟩ x1 y1 e1) (h2 : EqAt A.in1 ⟨hp, gs, dr, tk, os⟩ x2 y2 e2) (h3 : EqAt A.in1 ⟨hp, gs, dr, tk, os⟩ x3 y3 e3) (h : Q (.bool (e1 && e2 && e3)) ⟨hp, gs, dr, tk, os⟩) :
    wpAny (model pg w) A (richCompare .Eq (.ref x) (.ref t)) Q E ⟨hp, gs, dr, tk, os⟩ := by
  have t1 : Looks (model pg w) hp (typeOf (.ref x)) (.ref 163) := (Looks.ld hx).andThen .now
  have t2 : Looks (model pg w) hp (typeOf (.ref t)) (.type "tuple") := (Looks.ld ht).andThen .now
  have t3 : Looks (model pg w) hp (typeLookup (.ref 163) "__eq__") (some (.builtin "tuple.__eq__")) := looks_findIn X (by rfl)
  have t4 : Looks (model pg w) hp (isSubtype (.type "tuple") (.ref 163)) false := Looks.of_pure sub_tuple_163
  have t5 := te_bind (.ref x)
  unfold richCompare
  refine wpAny_holding (wpAny_bind (wpAny_cRoomFor (by lia  ) ?_))
  rw [show oneThing? .Eq (.ref x) (.ref t) = none from rfl]
  simp only [cmpInfo]
  refine wpAny_bind (t1.at (wpAny_bind (t2.at ?_)))
  rw [if_pos (by decide)]
  refine wpAny_bind (t4.at ?_)
  simp only [Bool.false_eq_true, if_false, Bool.not_false, if_true]
  refine wpAny_bind (m := tryCompare (.ref x) _ (.ref t)) ?_
  unfold tryCompare callSpecialIfBound? bindSpecialIfBound? specialOf
  have t6 : Looks (model pg w) hp (isInstance (.ref x) (.type "tuple")) true := t1.andThen (looks_mroIn X (by rfl))
  have run : ∀ (Q' : Value → Shared → Prop) (E' : Value → Shared → Prop), Q' (.bool (e1 && e2 && e3)) ⟨hp, gs, dr, tk, os⟩ → wpAny (model pg w) A (call (.builtin "tuple.__eq__") [.ref x, .ref t]) Q' E' ⟨hp, gs, dr, tk, os⟩ := fun Q' E' hq => by
    refine wpAny_call (codeAny_call_builtin PySem.F.slot_tuple_eq.plain PySem.F.entry_tuple_eq (check_slot te_kind te_split t6 (PySem.F.args_tuple_eq_2 _ _) ?_))
    exact tup3_eq x t _ x1 x2 x3 y1 y2 y3 _ n rfl e1 e2 e3 pg w A (wants Q' E') ⟨hp, gs, dr, tk, os⟩ ⟨hx, ht, h1, h2, h3, hq⟩
  repeat (first | rw [t5] | lk)
  have tail : ∀ (a : Option (Value × List Value)), a = some (Value.builtin "tuple.__eq__", [Value.ref x]) → wpAny (model pg w) A
      (match a with
        | some (g, first) => do
          let r ← call g (first ++ [Value.ref t])
          pure (some r)
        | x => pure none) (fun a s' => a = some (.bool (e1 && e2 && e3)) ∧ s' = ⟨hp, gs, dr, tk, os⟩) (fun _ _ => False) ⟨hp, gs, dr, tk, os⟩ := by
    rintro _ rfl
    exact wpAny_bind (run _ _ (wpAny_pure ⟨rfl, rfl⟩))
  have fin : wpAny (model pg w) A ((do
        let r ← pure (Value.builtin "tuple.__eq__", [Value.ref x])
        pure (some r) : Sem _)) (fun a s' => a = some (Value.builtin "tuple.__eq__", [Value.ref x]) ∧ s' = ⟨hp, gs, dr, tk, os⟩) (fun _ _ => False) ⟨hp, gs, dr, tk, os⟩ := wpAny_bind (wpAny_pure (wpAny_pure ⟨rfl, rfl⟩))
  have both : ∀ (b : Bool) (k : Value → Sem _), wpAny (model pg w) A (if b = true then ((do
        let r ← pure (Value.builtin "tuple.__eq__", [Value.ref x])
        pure (some r) : Sem _)) else ((do
        let r ← pure (Value.builtin "tuple.__eq__", [Value.ref x])
        pure (some r) : Sem _)).tryCatch k) (fun a s' => a = some (Value.builtin "tuple.__eq__", [Value.ref x]) ∧ s' = ⟨hp, gs, dr, tk, os⟩) (fun _ _ => False) ⟨hp, gs, dr, tk, os⟩ := by
    intro b k
    cases b with
    | true => rw [if_pos rfl]; exact fin
    | false => rw [if_neg (by simp)]; exact wpAny_tryCatch (wpAny_mono fin (fun _ _ q => q) fun _ _ f => f.elim)
  refine wpAny_mono (both _ _) (fun a s' q => ?_) fun _ _ f => f.elim
  obtain ⟨rfl, rfl⟩ := q
  refine wpAny_mono (tail _ rfl) (fun a s' q => ?_) fun _ _ f => f.elim
  obtain ⟨rfl, rfl⟩ := q
  exact wpAny_pure (wpAny_pure h)
end
end Mine
end
section
open PySem PySem.W PyProof.Rows
set_option maxRecDepth 100000
namespace Mine
/-- an item of s or t: NULL, or a list of ints -/
noncomputable def VO (g : Heap) (N : Addr) (v : Value) (o : Option (List Int)) : Prop := match o with | some x => Ints g v x | none => v = .ref N
theorem VO.mono {g g' : Heap} {N : Addr} {v : Value} {o : Option (List Int)} (l : LE g g') (h : VO g N v o) : VO g' N v o := by
  cases o with
  | none => exact h
  | some x => exact IsL.mono l h
theorem AllVO.mono {g g' : Heap} {N : Addr} {vs : List Value} {S : OL} (l : LE g g') (h : All2 (VO g N) vs S) : All2 (VO g' N) vs S := h.imp fun _ _ => VO.mono l
theorem AllVO.of {g : Heap} {N : Addr} {vs : List Value} {l : List (List Int)} (h : All2 (Ints g) vs l) : All2 (VO g N) vs (l.map some) := h.map fun _ _ r => r
section
variable {prog : Program} {w : World} {A : Around} {hp g : Heap} {gs : Array GenState} {dr : Drawn} {tk : Nat} {os : OsState} {Q : Value → Shared → Prop} {N : Addr}
theorem eqVO {v u : Value} {o : Option (List Int)} {x : List Int} (hg : LE g hp) (hN : g.get? N = some nullObj) (hv : VO g N v o) (hu : Ints g u x) (R : A.units + 64 < cLine) (h : Q (.bool (decide (o = some x))) ⟨hp, gs, dr, tk, os⟩) : Wp prog w A (compareOp .Eq v u) Q ⟨hp, gs, dr, tk, os⟩ := by
  cases o with
  | none =>
    obtain rfl : v = .ref N := hv
    obtain ⟨a, us, n, rfl, e, _⟩ := hu
    exact null_eq (hg _ _ hN) (hg _ _ e) (by lia  ) (by simpa using h)
  | some y =>
    exact eqI (IsL.mono hg hv) (IsL.mono hg hu) R (by simpa using h)
theorem isVO {v : Value} {o : Option (List Int)} (hg : LE g hp) (hN : g.get? N = some nullObj) (hv : VO g N v o) (h : Q (.bool (decide (o = none))) ⟨hp, gs, dr, tk, os⟩) : Wp prog w A (compareOp .Is v (.ref N)) Q ⟨hp, gs, dr, tk, os⟩ := by
  cases o with
  | none =>
    obtain rfl : v = .ref N := hv
    exact ⟨wpAny_is_ref_self (by simpa using h)⟩
  | some y =>
    obtain ⟨a, us, n, rfl, e, _⟩ := hv
    have hne : a ≠ N := fun q => by subst q; rw [hN] at e; exact absurd (congrArg Obj.cls (Option.some.inj e)) (by simp)
    refine ⟨?_⟩
    unfold compareOp
    exact wpAny_bind (wpAny_isSame_ref_other hne (hg _ _ e) (hg _ _ hN) (by simp) (wpAny_pure (by simpa using h)))
end
end Mine
end
section
open PySem PySem.W PyProof.Rows
set_option maxRecDepth 100000
namespace Mine
/-- what stands of S after the marks up to j -/
noncomputable def nulFrom (x : List Int) (S : OL) (i k : Nat) : OL := S.take i ++ nul x ((S.drop i).take k) ++ S.drop (i + k)
theorem nulFrom_len {x : List Int} {S : OL} {i k : Nat} (h : i + k ≤ S.length) : (nulFrom x S i k).length = S.length := by
  unfold nulFrom nul; simp; lia  
theorem nulFrom_at {x : List Int} {S : OL} {i k : Nat} (h : i + k < S.length) : (nulFrom x S i k)[i + k]? = S[i + k]? := by
  unfold nulFrom nul
  rw [List.getElem?_append_right (by simp; lia  )]
  simp only [List.length_append, List.length_take, List.length_map, List.length_drop]
  rw [show i + k - (min i S.length + min k (S.length - i)) = 0 by lia  , List.getElem?_drop]
  rfl
theorem nulFrom_hit {x : List Int} {S : OL} {i k : Nat} (h : i + k < S.length) (e : S[i + k]? = some (some x)) : (nulFrom x S i k).set (i + k) none = nulFrom x S i (k + 1) := by
  unfold nulFrom nul
  rw [List.set_append_right _ _ (by simp; lia  )]
  simp only [List.length_append, List.length_take, List.length_map, List.length_drop]
  rw [show i + k - (min i S.length + min k (S.length - i)) = 0 by lia  ]
  rw [List.drop_eq_getElem_cons h, List.set_cons_zero, List.take_add_one, List.getElem?_drop, e]
  have : S.drop (i + (k + 1)) = S.drop (i + k + 1) := rfl
  rw [this]
  simp
theorem nulFrom_miss {x : List Int} {S : OL} {i k : Nat} {o : Option (List Int)} (h : i + k < S.length) (e : S[i + k]? = some o) (ho : o ≠ some x) : nulFrom x S i k = nulFrom x S i (k + 1) := by
  unfold nulFrom nul
  have hx : S[i + k] = o := by rw [List.getElem?_eq_getElem h] at e; exact Option.some.inj e
  rw [List.drop_eq_getElem_cons h, List.take_add_one, List.getElem?_drop, e, hx]
  have : S.drop (i + (k + 1)) = S.drop (i + k + 1) := rfl
  rw [this]
  simp [ho]

section
variable {w : World} {A : Around} {hp : Heap} {gs : Array GenState} {dr : Drawn} {tk : Nat} {os : OsState} {env : Env} {names : List (Str × NameKind)} {h₀ g₀ g : Heap} {L : Addr} {cs : List (Str × Addr)} {m cm : Str → Option Value} {own : List (Addr × (Obj → Prop))}
noncomputable def cntFrom (x : List Int) (S : OL) (i k : Nat) : Nat := cntO x ((S.drop i).take k)
theorem cntFrom_hit {x : List Int} {S : OL} {i k : Nat} (h : i + k < S.length) (e : S[i + k]? = some (some x)) : cntFrom x S i (k + 1) = cntFrom x S i k + 1 := by
  unfold cntFrom cntO
  rw [List.take_add_one, List.getElem?_drop, e]; simp
theorem cntFrom_miss {x : List Int} {S : OL} {i k : Nat} {o : Option (List Int)} (h : i + k < S.length) (e : S[i + k]? = some o) (ho : o ≠ some x) : cntFrom x S i (k + 1) = cntFrom x S i k := by
  unfold cntFrom cntO
  rw [List.take_add_one, List.getElem?_drop, e]; simp [ho]
theorem rs_two (a b : Nat) (h : a ≤ b) : Builtin.Range.rangeSize (a : Int) (b : Int) 1 = ((b - a : Nat) : Int) := by
  unfold Builtin.Range.rangeSize
  simp; split <;> lia  
theorem sSetSub {o i value : Expr} {pos' pos : Pos} {s : Shared} {Q : Flow → Shared → Prop}
    (h : Wp pg w A (eval value env) (fun v s₁ => Wp pg w A (eval o env) (fun ov s₂ => Wp pg w A (eval i env) (fun iv s₃ => Wp pg w A (setItem ov iv v) (fun _ => Q .next) s₃) s₂) s₁) s)
    (hs : swapsWith value (some (.Subscript o i pos')) pos.line env = pure false := by rfl) : Wp pg w A (exec (.Assign [.Subscript o i pos'] value pos) env) Q s := ⟨wpAny_Assign_Subscript h.four hs⟩
inductive J7a (gs : Array GenState) (dr : Drawn) (os : OsState) (h₀ : Heap) (g₀ : Heap) (g : Heap) (L : Addr) (cs : List (Str × Addr)) (cm : Str → Option Value) (own : List (Addr × (Obj → Prop))) (I : Addr) (D : Addr) (N : Addr) (i : Nat) (m : Str → Option Value) (xc : Str) (x : List Int) (S : List (Option (List Int))) (k : Nat) (s : Shared) : Prop
  | mk (h' : Heap) (tk' : Nat) (m' : Str → Option Value) (us : List Value) (t : Tok)
    (q0 : s = ⟨h', gs, dr, tk', os⟩) (q1 : (∀ y : Str, y ≠ "j" → y ≠ xc → m' y = m y)) (q2 : m' xc = some (.int (cntFrom x S i k : Nat) t)) (q3 : Bd h₀ g₀ L cs m' cm ((I, rangeIt i 1 (S.length - i) k) :: (D, isLst us) :: own) g h') (q4 : All2 (VO g N) us (nulFrom x S i k))
/-- for j in range(i, m): if s[j] == elem: cnt += 1; s[j] = NULL -/
theorem markLoop {xm xs xc : Str} {q1 q2 q3 q4 q5 q6 q7 q8 q9 p1 p2 p3 p4 p5 p6 p7 p8 p9 r1 r2 : Pos} {it im tc : Tok} {D N : Addr} {vs : List Value} {S : OL} {i : Nat} {ve : Value} {x : List Int} {Q : Flow → Shared → Prop}
    (V : Ev env names L cs) (B : Bd h₀ g₀ L cs m cm ((D, isLst vs) :: own) g hp) (G : Gl (KK w) hp) (R : Rm A 0)
    (nj : names.lookup ("j" : Str) = some .local) (ns : names.lookup xs = some .local) (nc : names.lookup xc = some .local) (ne : names.lookup ("elem" : Str) = some .local) (nN : names.lookup ("NULL" : Str) = some .local) (ni : names.lookup ("i" : Str) = some .local) (nm : names.lookup xm = some .local) (nr : names.lookup ("range" : Str) = some .globalImplicit)
    (d1 : xs ≠ "j") (d2 : xc ≠ "j") (d3 : xs ≠ xc) (d4 : xc ≠ "elem") (d5 : xc ≠ "NULL") (d7 : (xs == ("__debug__" : Str)) = false) (d8 : (xm == ("__debug__" : Str)) = false)
    (ms : m xs = some (.ref D)) (mi : m "i" = some (.int (i : Nat) it)) (mm : m xm = some (.int (S.length : Nat) im)) (me : m "elem" = some ve) (mN : m "NULL" = some (.ref N)) (mc : m xc = some (.int 0 tc))
    (hall : All2 (VO g N) vs S) (hx : Ints g ve x) (hN : g.get? N = some nullObj) (hi : i ≤ S.length) (hz : S.length ≤ 100000)
    (h : ∀ h' tk' m' us t, (∀ y : Str, y ≠ "j" → y ≠ xc → m' y = m y) → m' xc = some (.int (cntFrom x S i (S.length - i) : Nat) t) → Bd h₀ g₀ L cs m' cm ((D, isLst us) :: own) g h' → All2 (VO g N) us (nulFrom x S i (S.length - i)) → Q .next ⟨h', gs, dr, tk', os⟩) :
    Wp pg w A (exec (.For (.Name "j" q1) (.Call (.Name "range" q2) [.Name "i" q3, .Name xm q4] [] q5)
      [.If (.Compare (.Subscript (.Name xs q6) (.Name "j" q7) q8) [.Eq] [.Name "elem" q9] p1) [.AugAssign (.Name xc p2) .Add (.Constant (.int 1) 0 p3) p4, .Assign [.Subscript (.Name xs p5) (.Name "j" p6) p7] (.Name "NULL" p8) p9] [] r1] [] r2) env) Q ⟨hp, gs, dr, tk, os⟩ := by
  have e1 := hall.len
  refine sFor (callTy (nameB V G nr (by rfl) bb_range ⟨rfl, argCons (nameL V B ni mi (argCons (nameL V B nm mm (argNil ?_) d8)))⟩))
  refine range2 B fun h2 tk2 r z1 z2 z3 hr B2 => ?_
  refine iterR B2 hr (small_of (by lia  ) (by lia  ) (.inl rfl)) (rs_two i S.length hi) fun h3 I B3 => ?_
  have W : It pg w A g I (S.length - i) (fun k v => ∃ t, v = .int ((i : Int) + k * 1) t) (rangeIt i 1 (S.length - i)) := It.range R.hh i 1 (S.length - i)
  refine for_loop (S.length - i) (J7a gs dr os h₀ g₀ g L cs cm own I D N i m xc x S) ?turn ?last
      ⟨_, _, m, vs, tc, rfl, fun _ _ _ => rfl, mc, B3, ?init⟩
  case init => unfold nulFrom nul; simpa using hall
  case last =>
    rintro s ⟨h', tk', m', us, t, rfl, hm', hc', B', hus⟩
    exact lastI (pre := []) W LE.rfl' B' fun h4 tk4 B4 => ⟨rfl, _, rfl, h h4 tk4 m' us t hm' hc' B4 hus⟩
  case turn =>
    rintro k s hk ⟨h', tk', m', us, t, rfl, hm', hc', B', hus⟩
    refine stepI (pre := []) W LE.rfl' B' hk fun v h4 tk4 hv B4 => ⟨v, rfl, ?_⟩
    obtain ⟨jt, rfl⟩ := hv
    rw [show (i : Int) + (k : Int) * 1 = ((i + k : Nat) : Int) by lia  ]
    refine letGo_name (assignL V B4 nj fun h5 tk5 B5 => ?_)
    have hik : i + k < S.length := by lia  
    have hse : S[i + k]? = some S[i + k] := List.getElem?_eq_getElem hik
    have hul := hus.len
    rw [nulFrom_len (by lia  )] at hul
    obtain ⟨vj, hvj, rvj⟩ := hus.get' ((nulFrom_at hik).trans hse)
    obtain ⟨nD, eD⟩ := B5.atL (a := D) (vs := us) (by first | exact .head _ | exact .tail _ (.head _) | exact .tail _ (.tail _ (.head _)) | exact .tail _ (.tail _ (.tail _ (.head _))) | exact .tail _ (.tail _ (.tail _ (.tail _ (.head _)))) | exact .tail _ (.tail _ (.tail _ (.tail _ (.tail _ (.head _))))))
    have ms' : m' xs = some (.ref D) := (hm' xs d1 d3).trans ms
    have me' : m' "elem" = some ve := (hm' _ (by decide) (Ne.symm d4)).trans me
    have mN' : m' "NULL" = some (.ref N) := (hm' _ (by decide) (Ne.symm d5)).trans mN
    refine sCons (sIf (tCmp (eSub (nameL V B5 ns (upd_of ms' d1) (nameL V B5 nj upd_self ?_) d7))))
    refine item_at (isList_of eD) (by lia  ) (by lia  ) (by rw [Int.toNat_natCast]; simpa using hvj) ?_
    refine nameL V B5 ne (upd_of me') (eqVO B5.le hN rvj hx R.u64 (truB ?_))
    by_cases ho : S[i + k] = some x
    · refine kIf_t (by simpa using ho) ?_
      refine sCons (sAug ⟨wpAny_loadName_local V.kd (by rw [V.kindOf]; exact nc) (by rw [V.lc]; exact B5.ns) (upd_of hc' d2) (cInt fun t6 tk6 => ⟨PyProof.Rows.iadd_int (storeL V B5 nc fun h7 tk7 B7 => ?_)⟩)⟩)
      have mk : ∀ (t7 : Tok) (y : Str), y ≠ "j" → y ≠ xc → upd (upd m' "j" (.int ((i + k : Nat) : Int) jt)) xc (.int ((cntFrom x S i k : Nat) + 1) t7) y = m y := fun t7 y y1 y2 => (upd_ne y2).trans ((upd_ne y1).trans (hm' y y1 y2))
      refine sCons (sSetSub (nameL V B7 nN (upd_of (upd_of mN') (Ne.symm d5)) (nameL V B7 ns (upd_of (upd_of ms' d1) d3) (nameL V B7 nj (upd_of upd_self (Ne.symm d2)) ?_) d7)))
      refine set_own (pre := [(I, rangeIt i 1 (S.length - i) (k + 1))]) B7 (by lia  ) (by rw [sizeLine_eq]; lia  ) fun h8 B8 => sNil (sNil ?_)
      refine ⟨_, _, _, _, _, rfl, mk _, upd_self.trans (by rw [cntFrom_hit hik (hse.trans (congrArg some ho))]; push_cast; rfl), B8, ?_⟩
      rw [← nulFrom_hit hik (hse.trans (congrArg some ho))]
      exact hus.set rfl
    · refine kIf_f (by simpa using ho) ?_
      refine sNil (sNil ⟨_, _, _, us, t, rfl, fun y y1 y2 => (upd_ne y1).trans (hm' y y1 y2), (upd_of hc' d2).trans (by rw [cntFrom_miss hik hse ho]), B5, ?_⟩)
      · rw [← nulFrom_miss hik hse ho]; exact hus
end
end Mine
end
section
open PySem PySem.W PyProof.Rows
set_option maxRecDepth 100000
namespace Mine
inductive J7b (gs : Array GenState) (dr : Drawn) (os : OsState) (h₀ : Heap) (g₀ : Heap) (g : Heap) (L : Addr) (cs : List (Str × Addr)) (cm : Str → Option Value) (own : List (Addr × (Obj → Prop))) (e : Addr) (it : Addr) (D : Addr) (N : Addr) (m : Str → Option Value) (x : List Int) (S : List (Option (List Int))) (k : Nat) (s : Shared) : Prop
  | mk (h' : Heap) (tk' : Nat) (m' : Str → Option Value) (us : List Value) (t : Tok)
    (q0 : s = ⟨h', gs, dr, tk', os⟩) (q1 : (∀ y : Str, y ≠ "j" → y ≠ "cnt_t" → y ≠ "other_elem" → m' y = m y)) (q2 : m' "cnt_t" = some (.int (cntFrom x S 0 k : Nat) t)) (q3 : Bd h₀ g₀ L cs m' cm ((e, isEnum it k) :: (it, listIt D k) :: (D, isLst us) :: own) g h') (q4 : All2 (VO g N) us (nulFrom x S 0 k))

section
variable {w : World} {A : Around} {hp : Heap} {gs : Array GenState} {dr : Drawn} {tk : Nat} {os : OsState} {env : Env} {names : List (Str × NameKind)} {h₀ g₀ g : Heap} {L : Addr} {cs : List (Str × Addr)} {m cm : Str → Option Value} {own : List (Addr × (Obj → Prop))}
/-- for j, other_elem in enumerate(t): if other_elem == elem: cnt_t += 1; t[j] = NULL -/
theorem markEnum {q1 q2 q3 q4 q5 q6 q7 q8 q9 p1 p2 p3 p4 p5 p6 p7 p8 p9 r2 : Pos} {kk : Nat} {tc : Tok} {D N : Addr} {vs : List Value} {S : OL} {ve : Value} {x : List Int} {Q : Flow → Shared → Prop}
    (V : Ev env names L cs) (B : Bd h₀ g₀ L cs m cm ((D, isLst vs) :: own) g hp) (G : Gl (KK w) hp) (R : Rm A 0)
    (nj : names.lookup ("j" : Str) = some .local) (no : names.lookup ("other_elem" : Str) = some .local) (ns : names.lookup ("t" : Str) = some .local) (nc : names.lookup ("cnt_t" : Str) = some .local) (ne : names.lookup ("elem" : Str) = some .local) (nN : names.lookup ("NULL" : Str) = some .local) (nr : names.lookup ("enumerate" : Str) = some .globalImplicit)
    (ms : m "t" = some (.ref D)) (me : m "elem" = some ve) (mN : m "NULL" = some (.ref N)) (mc : m "cnt_t" = some (.int 0 tc))
    (hall : All2 (VO g N) vs S) (hx : Ints g ve x) (hN : g.get? N = some nullObj) (hz : S.length ≤ 100000)
    (h : ∀ h' tk' m' us t, (∀ y : Str, y ≠ "j" → y ≠ "cnt_t" → y ≠ "other_elem" → m' y = m y) → m' "cnt_t" = some (.int (cntFrom x S 0 S.length : Nat) t) → Bd h₀ g₀ L cs m' cm ((D, isLst us) :: own) g h' → All2 (VO g N) us (nulFrom x S 0 S.length) → Q .next ⟨h', gs, dr, tk', os⟩) :
    Wp pg w A (exec (.For (.Tuple [.Name "j" q1, .Name "other_elem" q2] kk q3) (.Call (.Name "enumerate" q4) [.Name "t" q5] [] q6)
      [.If (.Compare (.Name "other_elem" q7) [.Eq] [.Name "elem" q9] p1) [.AugAssign (.Name "cnt_t" p2) .Add (.Constant (.int 1) 0 p3) p4, .Assign [.Subscript (.Name "t" p5) (.Name "j" p6) p7] (.Name "NULL" p8) p9] [] q8] [] r2) env) Q ⟨hp, gs, dr, tk, os⟩ := by
  have e1 := hall.len
  obtain ⟨nD, eD⟩ := B.atL (a := D) (vs := vs) (.head _)
  refine sFor (callTy (nameB V G nr (by rfl) bb_enumerate ⟨rfl, arg1 (nameL V B ns ms (enumL B eD fun h3 e it k3 B3 => iterE B3 ?_))⟩))
  refine for_loop S.length (J7b gs dr os h₀ g₀ g L cs cm own e it D N m x S) ?turn ?last
      ⟨_, _, m, vs, tc, rfl, fun _ _ _ _ => rfl, mc, B3, ?init⟩
  case init => unfold nulFrom nul; simpa using hall
  case last =>
    rintro s ⟨h', tk', m', us, t, rfl, hm', hc', B', hus⟩
    obtain ⟨nD, eD⟩ := B'.atL (a := D) (vs := us) (by first | exact .head _ | exact .tail _ (.head _) | exact .tail _ (.tail _ (.head _)) | exact .tail _ (.tail _ (.tail _ (.head _))) | exact .tail _ (.tail _ (.tail _ (.tail _ (.head _)))) | exact .tail _ (.tail _ (.tail _ (.tail _ (.tail _ (.head _))))))
    have hul := hus.len
    rw [nulFrom_len (by lia  )] at hul
    refine enumLast (vs := us) R.hh (hul.symm ▸ B') eD fun h4 tk4 B4 => ⟨rfl, _, rfl, h h4 tk4 m' us t hm' hc' B4 hus⟩
  case turn =>
    rintro k s hk ⟨h', tk', m', us, t, rfl, hm', hc', B', hus⟩
    obtain ⟨nD, eD⟩ := B'.atL (a := D) (vs := us) (by first | exact .head _ | exact .tail _ (.head _) | exact .tail _ (.tail _ (.head _)) | exact .tail _ (.tail _ (.tail _ (.head _))) | exact .tail _ (.tail _ (.tail _ (.tail _ (.head _)))) | exact .tail _ (.tail _ (.tail _ (.tail _ (.tail _ (.head _))))))
    have hul := hus.len
    rw [nulFrom_len (by lia  )] at hul
    have hik : 0 + k < S.length := by lia  
    have hse : S[0 + k]? = some S[0 + k] := List.getElem?_eq_getElem hik
    obtain ⟨vj, hvj, rvj⟩ := hus.get' ((nulFrom_at hik).trans hse)
    rw [Nat.zero_add] at hvj
    refine enumTurn R.hh V B' eD hvj nj no fun h5 tk5 jt B5 => ?_
    have ms' : m' "t" = some (.ref D) := (hm' _ (by decide) (by decide) (by decide)).trans ms
    have me' : m' "elem" = some ve := (hm' _ (by decide) (by decide) (by decide)).trans me
    have mN' : m' "NULL" = some (.ref N) := (hm' _ (by decide) (by decide) (by decide)).trans mN
    refine sCons (sIf (tCmp (nameL V B5 no upd_self (nameL V B5 ne (upd_of (upd_of me')) (eqVO B5.le hN rvj hx R.u64 (truB ?_))))))
    by_cases ho : S[0 + k] = some x
    · refine kIf_t (by simpa using ho) ?_
      refine sCons (sAug ⟨wpAny_loadName_local V.kd (by rw [V.kindOf]; exact nc) (by rw [V.lc]; exact B5.ns) (upd_of (upd_of hc')) (cInt fun t6 tk6 => ⟨PyProof.Rows.iadd_int (storeL V B5 nc fun h7 tk7 B7 => ?_)⟩)⟩)
      refine sCons (sSetSub (nameL V B7 nN (upd_of (upd_of (upd_of mN'))) (nameL V B7 ns (upd_of (upd_of (upd_of ms'))) (nameL V B7 nj (upd_of (upd_of upd_self)) ?_))))
      refine set_own (pre := [(e, isEnum it (k + 1)), (it, listIt D (k + 1))]) B7 (by lia  ) (by rw [sizeLine_eq]; lia  ) fun h8 B8 => sNil (sNil ?_)
      refine ⟨_, _, _, _, _, rfl, fun y y1 y2 y3 => (upd_ne y2).trans ((upd_ne y3).trans ((upd_ne y1).trans (hm' y y1 y2 y3))), upd_self.trans (by rw [cntFrom_hit hik (hse.trans (congrArg some ho))]; push_cast; rfl), B8, ?_⟩
      have q := nulFrom_hit hik (hse.trans (congrArg some ho))
      rw [Nat.zero_add] at q
      rw [← q]
      exact hus.set rfl
    · refine kIf_f (by simpa using ho) ?_
      refine sNil (sNil ⟨_, _, _, us, t, rfl, fun y y1 y2 y3 => (upd_ne y3).trans ((upd_ne y1).trans (hm' y y1 y2 y3)), (upd_of (upd_of hc')).trans (by rw [cntFrom_miss hik hse ho]), B5, ?_⟩)
      rw [← nulFrom_miss hik hse ho]; exact hus
end
end Mine
end
section
open PySem PySem.W PyProof.Rows
set_option maxRecDepth 100000
namespace Mine
/-- an object of class Mismatch that stands for (a, b, word) -/
inductive IsDif (g : Heap) (v : Value) (d : Dif) : Prop
  | mk (p dx : Addr) (va vb vc : Value) (e : v = .ref p) (o : g.get? p = some (misObj dx [va, vb, vc])) (q1 : IsNat va d.1) (q2 : IsNat vb d.2.1) (q3 : Ints g vc d.2.2)
theorem IsDif.mono {g g' : Heap} {v : Value} {d : Dif} (l : LE g g') (h : IsDif g v d) : IsDif g' v d :=
  let ⟨p, dx, va, vb, vc, e, o, r1, r2, r3⟩ := h; ⟨p, dx, va, vb, vc, e, l _ _ o, r1, r2, IsL.mono l r3⟩
theorem AllDif.mono {g g' : Heap} {vs : List Value} {xs : List Dif} (k : LE g g') (h : All2 (IsDif g) vs xs) : All2 (IsDif g') vs xs := h.imp fun _ _ => IsDif.mono k

theorem none_take {S : OL} {i : Nat} (hn : ∀ k, k < i → S[k]? = some none) (x : List Int) : nul x (S.take i) = S.take i ∧ cntO x (S.take i) = 0 := by
  have hall : ∀ o ∈ S.take i, o = none := fun o ho => by
    obtain ⟨k, hk, rfl⟩ := List.getElem_of_mem ho
    have hk' : k < i := by rw [List.length_take] at hk; lia  
    have := hn k hk'
    rw [List.getElem_take]
    exact (List.getElem?_eq_some_iff.mp this).2
  constructor
  · unfold nul
    conv => rhs; rw [← List.map_id (S.take i)]
    exact List.map_congr_left fun o ho => by rw [hall o ho]; rfl
  · unfold cntO
    rw [List.length_eq_zero_iff, List.filter_eq_nil_iff]
    intro o ho; rw [hall o ho]; simp
theorem nul_all {S : OL} {i : Nat} (hi : i ≤ S.length) (hn : ∀ k, k < i → S[k]? = some none) (x : List Int) : nulFrom x S i (S.length - i) = nul x S ∧ cntFrom x S i (S.length - i) = cntO x S := by
  obtain ⟨h1, h2⟩ := none_take hn x
  have e : (S.drop i).take (S.length - i) = S.drop i := List.take_of_length_le (by simp)
  constructor
  · unfold nulFrom
    rw [e, show S.drop (i + (S.length - i)) = [] from List.drop_of_length_le (by lia  ), List.append_nil]
    conv => lhs; rw [← h1]
    unfold nul
    rw [← List.map_append, List.take_append_drop]
  · unfold cntFrom
    rw [e]
    have : cntO x S = cntO x (S.take i) + cntO x (S.drop i) := by
      unfold cntO; rw [← List.length_append, ← List.filter_append, List.take_append_drop]
    rw [this, h2, Nat.zero_add]
theorem nul_whole (x : List Int) (S : OL) : nulFrom x S 0 S.length = nul x S ∧ cntFrom x S 0 S.length = cntO x S := by
  have := nul_all (S := S) (i := 0) (Nat.zero_le _) (fun k h => absurd h (Nat.not_lt_zero _)) x
  simpa using this
theorem nul_len (x : List Int) (S : OL) : (nul x S).length = S.length := by unfold nul; simp
theorem nul_next {S : OL} {i : Nat} {x : List Int} (hn : ∀ k, k < i → S[k]? = some none) (hx : S[i]? = some (some x)) : ∀ k, k < i + 1 → (nul x S)[k]? = some none := fun k hk => by
  unfold nul
  rw [List.getElem?_map]
  rcases Nat.lt_or_eq_of_le (Nat.le_of_lt_succ hk) with h | rfl
  · rw [hn k h]; rfl
  · rw [hx]; simp

noncomputable def nCd : List (Str × NameKind) := [("actual", .local), ("expected", .local), ("s", .local), ("t", .local), ("m", .local), ("n", .local), ("NULL", .local), ("result", .local), ("i", .local), ("elem", .local), ("cnt_s", .local), ("cnt_t", .local), ("j", .local), ("other_elem", .local), ("diff", .local),
  ("list", .globalImplicit), ("len", .globalImplicit), ("object", .globalImplicit), ("enumerate", .globalImplicit), ("range", .globalImplicit), ("_Mismatch", .globalImplicit)]
theorem mis_keep (w : World) : keepIn (KK w) (.ref 163) = true := by rfl
/-- a class of the text is called by its name -/
theorem callK {w : World} {A : Around} {s : Shared} {env : Env} {x : Str} {pos np : Pos} {e : Expr} {rest : List Expr} {a : Addr} {Q : Value → Shared → Prop} (hk : keepIn (KK w) (.ref a) = true)
    (h : Wp pg w A (eval (.Name x np) env) (fun f s₁ => f = .ref a ∧ (KK w).In s₁.heap ∧ Wp pg w A (spliced (backTo pos (starEach (e :: rest) env))) (fun vs s₂ => (KK w).In s₂.heap ∧ Wp pg w A (call (.ref a) vs) Q s₂) s₁) s)
    (he : starEach (e :: rest) env = (false, eval e env) :: starEach rest env := by rfl) (hplain : (backTo pos (starEach rest env)).any (·.1) = false := by rfl) :
    Wp pg w A (eval (.Call (.Name x np) (e :: rest) [] pos) env) Q s := by
  refine ⟨wpAny_Call_ofName (wpAny_mono h.run (fun f s₁ h₁ => ?_) fun _ _ e => e)⟩
  obtain ⟨rfl, X, h₁⟩ := h₁
  show wpAny _ _ (callWith pos (.ref a) [] (backTo pos (starEach (e :: rest) env)) []) Q _ s₁
  have h₂ := wpAny_mono h₁.run (Q' := fun vs s₂ => (KK w).In s₂.heap ∧ wpAny (model pg w) A (call (.ref a) ([] ++ vs)) Q (fun _ _ => False) s₂) (fun vs s₂ q => ⟨q.1, q.2.run⟩) fun _ _ e => e
  exact callWith_K X hk h₂ he hplain
/-- a type is called without arguments -/
theorem callTy0 {prog : Program} {w : World} {A : Around} {s : Shared} {env : Env} {x : Str} {pos np : Pos} {T : String} {Q : Value → Shared → Prop}
    (h : Wp prog w A (eval (.Name x np) env) (fun f s₁ => f = .type T ∧ Wp prog w A (call (.type T) []) Q s₁) s) : Wp prog w A (eval (.Call (.Name x np) [] [] pos) env) Q s := by
  refine ⟨wpAny_Call_ofName (wpAny_mono h.run (fun f s₁ h₁ => ?_) fun _ _ e => e)⟩
  obtain ⟨rfl, h₁⟩ := h₁
  show wpAny _ _ (callWith pos (.type T) [] (backTo pos (starEach [] env)) []) Q _ s₁
  exact callWith_type0 h₁.run
theorem sTwo {prog : Program} {w : World} {A : Around} {s : Shared} {env : Env} {x y : Str} {p1 p2 pos : Pos} {value : Expr} {Q : Flow → Shared → Prop}
    (h : Wp prog w A (eval value env) (fun v s₁ => Wp prog w A (assign (.Name x p1) env v) (fun _ s₂ => Wp prog w A (assign (.Name y p2) env v) (fun _ => Q .next) s₂) s₁) s)
    (hw : swappedStores [.Name x p1, .Name y p2] value env = pure none := by rfl) : Wp prog w A (exec (.Assign [.Name x p1, .Name y p2] value pos) env) Q s := ⟨wpAny_Assign_two h.three (by rfl) hw⟩

section
variable {w : World} {A : Around} {hp : Heap} {gs : Array GenState} {dr : Drawn} {tk : Nat} {os : OsState} {env : Env} {h₀ g₀ g : Heap} {L : Addr} {cs : List (Str × Addr)} {m cm : Str → Option Value} {own : List (Addr × (Obj → Prop))}
/-- diff = _Mismatch(a, b, elem); result.append(diff) -/
theorem sMis {q1 q2 q3 q4 q5 p1 p2 p3 p4 p5 : Pos} {ea eb : Expr} {Dr : Addr} {rs : List Value} {xs : List Dif} {d : Dif} {ve : Value} {Q : Flow → Shared → Prop}
    (V : Ev env nCd L cs) (B : Bd h₀ g₀ L cs m cm ((Dr, isLst rs) :: own) g hp) (G : Gl (KK w) hp) (R : Rm A 3)
    (hea : ∀ tk (Q : Value → Shared → Prop), (∀ v tk', IsNat v d.1 → Q v ⟨hp, gs, dr, tk', os⟩) → Wp pg w A (eval ea env) Q ⟨hp, gs, dr, tk, os⟩)
    (heb : ∀ tk (Q : Value → Shared → Prop), (∀ v tk', IsNat v d.2.1 → Q v ⟨hp, gs, dr, tk', os⟩) → Wp pg w A (eval eb env) Q ⟨hp, gs, dr, tk, os⟩)
    (me : m "elem" = some ve) (mr : m "result" = some (.ref Dr)) (hve : Ints g ve d.2.2) (hall : All2 (IsDif g) rs xs) (hz : xs.length ≤ 100000)
    (he1 : starEach [ea, eb, .Name "elem" q2] env = (false, eval ea env) :: starEach [eb, .Name "elem" q2] env)
    (he2 : backTo q3 (starEach [ea, eb, .Name "elem" q2] env) = (false, eval ea env) :: backTo q3 (starEach [eb, .Name "elem" q2] env))
    (he3 : backTo q3 (starEach [eb, .Name "elem" q2] env) = (false, eval eb env) :: backTo q3 (starEach [.Name "elem" q2] env))
    (he4 : (backTo q3 (starEach [eb, .Name "elem" q2] env)).any (·.1) = false)
    (hsw : swapsWith (.Call (.Name "_Mismatch" q1) [ea, eb, .Name "elem" q2] [] q3) (some (.Name "diff" q4)) q5.line env = pure false)
    (hline : (p2.endLine == p4.line) = true)
    (h : ∀ g' h' tk' m' rs', (∀ y : Str, y ≠ "diff" → m' y = m y) → LE g g' → Bd h₀ g₀ L cs m' cm ((Dr, isLst rs') :: own) g' h' → All2 (IsDif g') rs' (xs ++ [d]) → Q .next ⟨h', gs, dr, tk', os⟩) :
    Wp pg w A (execs [.Assign [.Name "diff" q4] (.Call (.Name "_Mismatch" q1) [ea, eb, .Name "elem" q2] [] q3) q5, .Expr (.Call (.Attribute (.Name "result" p1) "append" p2) [.Name "diff" p3] [] p4) p5] env) Q ⟨hp, gs, dr, tk, os⟩ := by
  refine sCons (sAssign (callK (mis_keep w) (nameG V G (by rfl) (by rfl) ⟨rfl, G.X, argCons (hea _ _ fun va tk1 ha => argCons (heb _ _ fun vb tk2 hb => arg1 (nameL V B (by rfl) me ?_)) he3) he2⟩) he1 he4) hsw)
  refine ⟨G.X, mis_call G R fun h1 tk3 x dx k z n e => ?_⟩
  obtain ⟨g1, S, new⟩ := Stp.full B.le k z
  have ex := new _ _ n e
  have B1 := B.pure S
  refine storeL V B1 (by rfl) fun h2 tk4 B2 => ?_
  obtain ⟨nD, eD⟩ := B2.atL (a := Dr) (vs := rs) (by first | exact .head _ | exact .tail _ (.head _) | exact .tail _ (.tail _ (.head _)) | exact .tail _ (.tail _ (.tail _ (.head _))) | exact .tail _ (.tail _ (.tail _ (.tail _ (.head _)))) | exact .tail _ (.tail _ (.tail _ (.tail _ (.tail _ (.head _))))))
  have hl := hall.len
  refine sCons (sAppend (nameL V B2 (by rfl) (upd_of mr) ⟨Dr, rs, nD, rfl, eD, nameL V B2 (by rfl) upd_self ?_⟩) V.quiet (by rfl) (by rfl) hline)
  refine append_own (pre := []) B2 (by rw [sizeLine_eq]; lia  ) fun h3 B3 => sNil ?_
  refine h g1 h3 _ _ _ (fun y hy => upd_ne hy) S.le B3 ((AllDif.mono S.le hall).app (.one ⟨x, dx, va, vb, ve, rfl, ex, ha, hb, IsL.mono S.le hve⟩))
end
end Mine
end
section
open PySem PySem.W PyProof.Rows
set_option maxRecDepth 100000
namespace Mine
inductive J7c (gs : Array GenState) (dr : Drawn) (os : OsState) (g13 : Heap) (hp : Heap) (g : Heap) (L : Addr) (cs : List (Str × Addr)) (cm : Str → Option Value) (e : Addr) (it : Addr) (Ds : Addr) (Dt : Addr) (Dr : Addr) (N : Addr) (s : List (List Int)) (t : List (List Int)) (t9 : Tok) (t10 : Tok) (i : Nat) (z : Shared) : Prop
  | mk (h' : Heap) (tk' : Nat) (m' : Str → Option Value) (vs' : List Value) (us' : List Value) (rs' : List Value) (g' : Heap) (st : List (Option (List Int)) × List (Option (List Int)) × List Dif)
    (q0 : z = ⟨h', gs, dr, tk', os⟩) (q1 : LE g13 g') (q2 : (m' "s" = some (.ref Ds) ∧ m' "t" = some (.ref Dt) ∧ m' "m" = some (.int (s.length : Nat) t9) ∧ m' "n" = some (.int (t.length : Nat) t10) ∧ m' "NULL" = some (.ref N) ∧ m' "result" = some (.ref Dr))) (q3 : Bd hp g L cs m' cm [(e, isEnum it i), (it, listIt Ds i), (Ds, isLst vs'), (Dt, isLst us'), (Dr, isLst rs')] g' h') (q4 : All2 (VO g' N) vs' st.1) (q5 : All2 (VO g' N) us' st.2.1) (q6 : All2 (IsDif g') rs' st.2.2) (q7 : cdS (s.length - i) i st = cdS s.length 0 (s.map some, t.map some, [])) (q8 : st.1.length = s.length) (q9 : st.2.1.length = t.length) (q10 : st.2.2.length ≤ i) (q11 : (∀ k, k < i → st.1[k]? = some none))
inductive J7d (gs : Array GenState) (dr : Drawn) (os : OsState) (g13 : Heap) (hp : Heap) (g : Heap) (L : Addr) (cs : List (Str × Addr)) (cm : Str → Option Value) (e2 : Addr) (it2 : Addr) (Dt : Addr) (Dr : Addr) (N : Addr) (s : List (List Int)) (t : List (List Int)) (t10 : Tok) (st : List (Option (List Int)) × List (Option (List Int)) × List Dif) (i : Nat) (z : Shared) : Prop
  | mk (h' : Heap) (tk' : Nat) (m' : Str → Option Value) (us' : List Value) (rs' : List Value) (g' : Heap) (st2 : List (Option (List Int)) × List Dif)
    (q0 : z = ⟨h', gs, dr, tk', os⟩) (q1 : LE g13 g') (q2 : (m' "t" = some (.ref Dt) ∧ m' "n" = some (.int (t.length : Nat) t10) ∧ m' "NULL" = some (.ref N) ∧ m' "result" = some (.ref Dr))) (q3 : Bd hp g L cs m' cm [(e2, isEnum it2 i), (it2, listIt Dt i), (Dt, isLst us'), (Dr, isLst rs')] g' h') (q4 : All2 (VO g' N) us' st2.1) (q5 : All2 (IsDif g') rs' st2.2) (q6 : cdT (t.length - i) i st2 = cdT t.length 0 (st.2.1, st.2.2)) (q7 : st2.1.length = t.length) (q8 : st2.2.length ≤ s.length + i) (q9 : (∀ k, k < i → st2.1[k]? = some none))

section
variable {w : World} {A : Around} {hp : Heap} {gs : Array GenState} {dr : Drawn} {tk : Nat} {os : OsState} {g : Heap}
set_option maxHeartbeats 2000000 in
theorem cd_call {a b : Addr} {vs us : List Value} {na nb : Nat} {s t : List (List Int)} {Q : Value → Shared → Prop} (G : Gl (KK w) hp) (hg : LE g hp) (R : Rm A 4) (ha : hp.get? a = some (lst vs na)) (hb : hp.get? b = some (lst us nb)) (hs : All2 (Ints g) vs s) (ht : All2 (Ints g) us t)
    (hls : s.length ≤ 10000) (hlt : t.length ≤ 10000)
    (h : ∀ g' h' tk' v, Stp g hp g' h' → IsL g' (IsDif g') v (cdOf s t) → Q v ⟨h', gs, dr, tk', os⟩) : Wp pg w A (call (.ref 173) [.ref a, .ref b]) Q ⟨hp, gs, dr, tk, os⟩ := by
  refine enter (K := KK w) (fd := _) (names := nCd) (binds := [("actual", .ref a), ("expected", .ref b)]) (nms := ["actual", "expected"]) G hg R.room (by rfl) (by rfl) (by rfl) (by rfl) (by rfl) (by rfl) (by rfl) (by decide) ?_ (by rfl) (by rfl) ?_
  · intro L x hx
    rcases List.mem_cons.mp hx with rfl | hx
    · exact .inl (by rfl)
    rcases List.mem_singleton.mp hx with rfl
    exact .inl (by rfl)
  · intro env L cs m cm h₁ tk₁ V hcs hm hcm B
    have R' : Rm (A.deeper env) 3 := R.deeper
    have hma : m "actual" = some (.ref a) := hm _ (.head _) (by rfl)
    have hmb : m "expected" = some (.ref b) := hm _ (.tail _ (.head _)) (by rfl)
    have hvl := hs.len
    have hul := ht.len
    refine sCons (sDoc V.quiet fun tk2 => ?_)
    -- s, t = (list(actual), list(expected))
    refine sCons (sAssignSw (names := ["s", "t"]) (dispT (argCons (callTy (nameB V (G.mono B.kp) (by rfl) (by rfl) bb_list ⟨rfl, arg1 (nameL V B (by rfl) hma (list_copy B (B.kp _ _ ha) (by rw [sizeLine_eq]; lia  ) fun h3 Ds k3 B3 => ?_))⟩)))) (by unfold swappedStores; simp only [Env.blockKind, V.kd, V.kindOf, List.filterMap]; rfl))
    refine argCons (callTy (nameB V (G.mono B3.kp) (by rfl) (by rfl) bb_list ⟨rfl, arg1 (nameL V B3 (by rfl) hmb (list_copy B3 (B3.kp _ _ hb) (by rw [sizeLine_eq]; lia  ) fun h4 Dt k4 B4 => ?_))⟩))
    refine argNil ⟨_, _, _, _, _, _, rfl, B4.le, by simp [sizeLine_eq], fun g5 h5 T5 S5 e5 => ?_⟩
    have B5 := B4.pure S5
    refine unpackT R'.hh B5 e5 (by rfl) fun h6 B6 => ?_
    refine inOrder (bindN (storeL V B6 (by rfl) fun h7 tk7 B7 => ?_))
    refine inOrder (bindN (storeL V B7 (by rfl) fun h8 tk8 B8 => inOrder_nil ?_))
    -- m, n = (len(s), len(t))
    obtain ⟨nS, eS⟩ := B8.atL (a := Ds) (vs := vs) (by first | exact .head _ | exact .tail _ (.head _) | exact .tail _ (.tail _ (.head _)) | exact .tail _ (.tail _ (.tail _ (.head _))) | exact .tail _ (.tail _ (.tail _ (.tail _ (.head _)))) | exact .tail _ (.tail _ (.tail _ (.tail _ (.tail _ (.head _))))))
    obtain ⟨nT, eT⟩ := B8.atL (a := Dt) (vs := us) (by first | exact .head _ | exact .tail _ (.head _) | exact .tail _ (.tail _ (.head _)) | exact .tail _ (.tail _ (.tail _ (.head _))) | exact .tail _ (.tail _ (.tail _ (.tail _ (.head _)))) | exact .tail _ (.tail _ (.tail _ (.tail _ (.tail _ (.head _))))))
    refine sCons (sAssignSw (names := ["m", "n"]) (dispT (argCons (callBu (nameB V (G.mono B8.kp) (by rfl) (by rfl) bb_len ⟨rfl, arg1 (nameL V B8 (by rfl) upd_self (lenL (isList_of eS) (by simp; lia  ) fun t9 tk9 => ?_))⟩)))) (by unfold swappedStores; simp only [Env.blockKind, V.kd, V.kindOf, List.filterMap]; rfl))
    refine argCons (callBu (nameB V (G.mono B8.kp) (by rfl) (by rfl) bb_len ⟨rfl, arg1 (nameL V B8 (by rfl) (upd_of upd_self) (lenL (isList_of eT) (by simp; lia  ) fun t10 tk10 => ?_))⟩))
    refine argNil ⟨_, _, _, _, _, _, rfl, B8.le, by simp [sizeLine_eq], fun g9 h9 T9 S9 e9 => ?_⟩
    have B9 := B8.pure S9
    refine unpackT R'.hh B9 e9 (by rfl) fun h10 B10 => ?_
    refine inOrder (bindN (storeL V B10 (by rfl) fun h11 tk11 B11 => ?_))
    refine inOrder (bindN (storeL V B11 (by rfl) fun h12 tk12 B12 => inOrder_nil ?_))
    -- NULL = object()
    refine sCons (sAssign (callTy0 (nameB V (G.mono B12.kp) (by rfl) (by rfl) bb_object ⟨rfl, object_call ?_⟩)))
    obtain ⟨g13, S13, eN⟩ := Stp.push B12.le nullObj rfl
    generalize h12.objs.size = N at eN ⊢
    have B13 := B12.pure S13
    refine storeL V B13 (by rfl) fun h14 tk14 B14 => ?_
    -- result = []
    refine sCons (sAssign (dispO (argNil ⟨_, _, _, _, _, rfl, by decide, fun h15 Dr e1 e2 => ?_⟩)))
    refine storeL V (B14.mk1 e1 e2) (by rfl) fun h16 tk16 B16 => ?_
    have hsz1 : ((vs.toArray.size : Nat) : Int) = ((s.length : Nat) : Int) := by simp; lia  
    have hsz2 : ((us.toArray.size : Nat) : Int) = ((t.length : Nat) : Int) := by simp; lia  
    rw [hsz1, hsz2] at B16
    obtain ⟨m16, B16, Km⟩ : ∃ m' : Str → Option Value, Bd hp g L cs m' cm [(Dr, isLst []), (Dt, isLst us), (Ds, isLst vs)] g13 h16 ∧
        m' "s" = some (.ref Ds) ∧ m' "t" = some (.ref Dt) ∧ m' "m" = some (.int (s.length : Nat) t9) ∧ m' "n" = some (.int (t.length : Nat) t10) ∧ m' "NULL" = some (.ref N) ∧ m' "result" = some (.ref Dr) :=
      ⟨_, B16, upd_of (upd_of (upd_of (upd_of upd_self))), upd_of (upd_of (upd_of (upd_of (upd_of upd_self)))), upd_of (upd_of upd_self), upd_of (upd_of (upd_of upd_self)), upd_of upd_self, upd_self⟩
    have l13 : LE g g13 := (S5.le.tr S9.le).tr S13.le
    have hS0 : All2 (VO g13 N) vs (s.map some) := AllVO.of (AllInts.mono l13 hs)
    have hT0 : All2 (VO g13 N) us (t.map some) := AllVO.of (AllInts.mono l13 ht)
    -- the first loop
    obtain ⟨nS', eS'⟩ := B16.atL (a := Ds) (vs := vs) (by first | exact .head _ | exact .tail _ (.head _) | exact .tail _ (.tail _ (.head _)) | exact .tail _ (.tail _ (.tail _ (.head _))) | exact .tail _ (.tail _ (.tail _ (.tail _ (.head _)))) | exact .tail _ (.tail _ (.tail _ (.tail _ (.tail _ (.head _))))))
    refine sCons (sFor (callTy (nameB V (G.mono B16.kp) (by rfl) (by rfl) bb_enumerate ⟨rfl, arg1 (nameL V B16 (by rfl) Km.1 (enumL B16 eS' fun h17 e it k17 B17 => iterE B17 ?_))⟩)))
    have hperm : List.Perm [(e, isEnum it 0), (it, listIt Ds 0), (Dr, isLst []), (Dt, isLst us), (Ds, isLst vs)] [(e, isEnum it 0), (it, listIt Ds 0), (Ds, isLst vs), (Dt, isLst us), (Dr, isLst [])] :=
      .cons _ (.cons _ (.trans (.cons _ (.swap ..)) (.trans (.swap ..) (.cons _ (.swap ..)))))
    refine for_loop s.length (J7c gs dr os g13 hp g L cs cm e it Ds Dt Dr N s t t9 t10) ?turn ?last
        ⟨_, _, _, vs, us, [], g13, (s.map some, t.map some, []), rfl, LE.rfl', Km, B17.perm hperm, hS0, hT0, .nil, rfl, by simp, by simp, Nat.zero_le _, fun k hk => absurd hk (Nat.not_lt_zero _)⟩
    case last =>
      rintro z ⟨h', tk', m', vs', us', rs', g', st, rfl, hle, Km', B', hS, hT, hR, hst, hl1, hl2, hl3, hnn⟩
      obtain ⟨nD, eD⟩ := B'.atL (a := Ds) (vs := vs') (by first | exact .head _ | exact .tail _ (.head _) | exact .tail _ (.tail _ (.head _)) | exact .tail _ (.tail _ (.tail _ (.head _))) | exact .tail _ (.tail _ (.tail _ (.tail _ (.head _)))) | exact .tail _ (.tail _ (.tail _ (.tail _ (.tail _ (.head _))))))
      have hvl' := hS.len
      rw [hl1] at hvl'
      refine enumLast (vs := vs') R'.hh (hvl'.symm ▸ B') eD fun h18 tk18 B18 => ⟨rfl, _, rfl, ?_⟩
      rw [Nat.sub_self] at hst
      have hst : st = cdS s.length 0 (s.map some, t.map some, []) := hst
      -- the second loop
      obtain ⟨nT', eT'⟩ := B18.atL (a := Dt) (vs := us') (by first | exact .head _ | exact .tail _ (.head _) | exact .tail _ (.tail _ (.head _)) | exact .tail _ (.tail _ (.tail _ (.head _))) | exact .tail _ (.tail _ (.tail _ (.tail _ (.head _)))) | exact .tail _ (.tail _ (.tail _ (.tail _ (.tail _ (.head _))))))
      refine sCons (sFor (callTy (nameB V (G.mono B18.kp) (by rfl) (by rfl) bb_enumerate ⟨rfl, arg1 (nameL V B18 (by rfl) Km'.2.1 (enumL B18 eT' fun h19 e2 it2 k19 B19 => iterE B19 ?_))⟩)))
      have hperm2 : List.Perm [(e2, isEnum it2 0), (it2, listIt Dt 0), (Ds, isLst vs'), (Dt, isLst us'), (Dr, isLst rs')] [(Ds, isLst vs'), (e2, isEnum it2 0), (it2, listIt Dt 0), (Dt, isLst us'), (Dr, isLst rs')] :=
        List.perm_middle (l₁ := [(e2, isEnum it2 0), (it2, listIt Dt 0)]) (l₂ := [(Dt, isLst us'), (Dr, isLst rs')]) (a := (Ds, isLst vs'))
      have B20 := (B19.perm hperm2).drop (own' := [(e2, isEnum it2 0), (it2, listIt Dt 0), (Dt, isLst us'), (Dr, isLst rs')]) (List.sublist_cons_self ..)
      refine for_loop t.length (J7d gs dr os g13 hp g L cs cm e2 it2 Dt Dr N s t t10 st) ?turn2 ?last2
          ⟨_, _, _, us', rs', g', (st.2.1, st.2.2), rfl, hle, ⟨Km'.2.1, Km'.2.2.2⟩, B20, hT, hR, rfl, hl2, by lia  , fun k hk => absurd hk (Nat.not_lt_zero _)⟩
      case last2 =>
        rintro z ⟨h', tk', m', us', rs', g', st2, rfl, hle, Km', B', hT, hR, hst2, hl2, hl3, hnn⟩
        obtain ⟨nD, eD⟩ := B'.atL (a := Dt) (vs := us') (by first | exact .head _ | exact .tail _ (.head _) | exact .tail _ (.tail _ (.head _)) | exact .tail _ (.tail _ (.tail _ (.head _))) | exact .tail _ (.tail _ (.tail _ (.tail _ (.head _)))) | exact .tail _ (.tail _ (.tail _ (.tail _ (.tail _ (.head _))))))
        have hvl' := hT.len
        rw [hl2] at hvl'
        refine enumLast (vs := us') R'.hh (hvl'.symm ▸ B') eD fun h21 tk21 B21 => ⟨rfl, _, rfl, ?_⟩
        rw [Nat.sub_self] at hst2
        have hst2 : st2 = cdT t.length 0 (st.2.1, st.2.2) := hst2
        refine sCons (sRet (nameL V B21 (by rfl) Km'.2.2.2 ?_))
        obtain ⟨g22, o, B22, l22, e22, ⟨n22, rfl⟩, _⟩ := B21.freeze (pre := [(Dt, isLst us')])
        refine h g22 h21 tk21 _ B22.exit ⟨Dr, rs', n22, rfl, e22, ?_⟩
        have : cdOf s t = st2.2 := by unfold cdOf; rw [hst2, hst]
        rw [this]
        exact AllDif.mono l22 hR
      case turn2 =>
        rintro i z hi ⟨h', tk', m', us', rs', g', st2, rfl, hle, Km', B', hT, hR, hst2, hl2, hl3, hnn⟩
        obtain ⟨Kt, Kn, KN, Kr⟩ := Km'
        obtain ⟨nD, eD⟩ := B'.atL (a := Dt) (vs := us') (by first | exact .head _ | exact .tail _ (.head _) | exact .tail _ (.tail _ (.head _)) | exact .tail _ (.tail _ (.tail _ (.head _))) | exact .tail _ (.tail _ (.tail _ (.tail _ (.head _)))) | exact .tail _ (.tail _ (.tail _ (.tail _ (.tail _ (.head _))))))
        have hi' : i < st2.1.length := by lia  
        obtain ⟨vi, hvi, rvi⟩ := hT.get' (List.getElem?_eq_getElem hi')
        obtain ⟨q, hq⟩ : ∃ q, t.length - i = q + 1 := ⟨t.length - i - 1, by lia  ⟩
        have hq2 : t.length - (i + 1) = q := by lia  
        rw [hq] at hst2
        have hst3 : cdT q (i + 1) (cdTwo st2 (st2.1.getD i none)) = cdT t.length 0 (st.2.1, st.2.2) := hst2
        rw [List.getD_eq_getElem?_getD, List.getElem?_eq_getElem hi', Option.getD_some] at hst3
        refine enumTurn R'.hh V B' eD hvi (by rfl) (by rfl) fun h21 tk21 ti B21 => ?_
        refine sCons (sIf (tCmp (nameL V B21 (by rfl) upd_self (nameL V B21 (by rfl) (upd_of (upd_of KN)) (isVO B21.le (hle _ _ eN) rvi (truB ?_))))))
        cases ho : st2.1[i] with
        | none =>
          rw [ho] at hst3
          refine kIf_t (by simp) ?_
          refine sCons (sCont ?_)
          refine ⟨_, _, _, us', rs', g', st2, rfl, hle, ⟨upd_of (upd_of Kt), upd_of (upd_of Kn), upd_of (upd_of KN), upd_of (upd_of Kr)⟩, B21, hT, hR, by rw [hq2]; exact hst3, hl2, by lia  , fun k hk => ?_⟩
          rcases Nat.lt_or_eq_of_le (Nat.le_of_lt_succ hk) with hk | rfl
          · exact hnn k hk
          · rw [List.getElem?_eq_getElem hi', ho]
        | some x =>
          rw [ho] at hst3 rvi
          refine kIf_f (by simp) ?_
          refine sNil (sCons (sAssign (cInt fun t22 tk22 => storeL V B21 (by rfl) fun h23 tk23 B23 => ?_)))
          have hperm3 := fun (a b c d : Addr × (Obj → Prop)) => List.perm_middle (l₁ := [a, b]) (l₂ := [d]) (a := c)
          have := R'.less (Nat.zero_le _)
          refine sCons (markLoop (S := st2.1) (x := x) (N := N) (it := ti) (im := t10) V (B23.perm (hperm3 ..)) (G.mono B23.kp) (R'.less (Nat.zero_le _)) (by rfl) (by rfl) (by rfl) (by rfl) (by rfl) (by rfl) (by rfl) (by rfl) (by decide) (by decide) (by decide) (by decide) (by decide) (by decide) (by decide)
            (upd_of (upd_of (upd_of Kt))) (upd_of (upd_of upd_self)) ((upd_of (upd_of (upd_of Kn))).trans (by rw [hl2])) (upd_of upd_self) (upd_of (upd_of (upd_of KN))) upd_self hT rvi (hle _ _ eN) (by lia  ) (by lia  ) fun h24 tk24 m4 us4 t4 hm4 hc4 B24 hT4 => ?_)
          obtain ⟨z1, z2⟩ := nul_all (x := x) (Nat.le_of_lt hi') hnn
          rw [z1] at hT4
          rw [z2] at hc4
          have Ke : m4 "elem" = some vi := (hm4 _ (by decide) (by decide)).trans (upd_of upd_self)
          have Kr4 : m4 "result" = some (.ref Dr) := (hm4 _ (by decide) (by decide)).trans (upd_of (upd_of (upd_of Kr)))
          have B25 := B24.perm (List.perm_middle (l₁ := [(Dt, isLst us4), (e2, isEnum it2 (i + 1)), (it2, listIt Dt (i + 1))]) (l₂ := []) (a := (Dr, isLst rs')))
          refine sMis (d := (0, cntO x st2.1, x)) V B25 (G.mono B25.kp) R' (fun tk Q k => cInt fun t5 tk5 => k _ _ ⟨t5, rfl⟩) (fun tk Q k => nameL V B25 (by rfl) hc4 (k _ _ ⟨t4, rfl⟩)) Ke Kr4 rvi hR (by lia  ) (by rfl) (by rfl) (by rfl) (by rfl) (by rfl) (by rfl) fun g6 h6 tk6 m6 rs6 hm6 l6 B6 hR6 => ?_
          have B26 := B6.perm (List.perm_middle (l₁ := [(Dt, isLst us4), (e2, isEnum it2 (i + 1)), (it2, listIt Dt (i + 1))]) (l₂ := []) (a := (Dr, isLst rs6))).symm
          have B27 := B26.perm (List.perm_middle (l₁ := [(e2, isEnum it2 (i + 1)), (it2, listIt Dt (i + 1))]) (l₂ := [(Dr, isLst rs6)]) (a := (Dt, isLst us4))).symm
          refine ⟨_, _, _, us4, rs6, g6, (nul x st2.1, st2.2 ++ [(0, cntO x st2.1, x)]), rfl, hle.tr l6, ⟨?_, ?_, ?_, ?_⟩, B27, AllVO.mono l6 hT4, hR6, by rw [hq2]; exact hst3, (nul_len ..).trans hl2, ?_, nul_next hnn (by rw [List.getElem?_eq_getElem hi', ho])⟩
          · exact (hm6 _ (by decide)).trans ((hm4 _ (by decide) (by decide)).trans (upd_of (upd_of (upd_of Kt))))
          · exact (hm6 _ (by decide)).trans ((hm4 _ (by decide) (by decide)).trans (upd_of (upd_of (upd_of Kn))))
          · exact (hm6 _ (by decide)).trans ((hm4 _ (by decide) (by decide)).trans (upd_of (upd_of (upd_of KN))))
          · exact (hm6 _ (by decide)).trans Kr4
          · simp; lia  
    case turn =>
      rintro i z hi ⟨h', tk', m', vs', us', rs', g', st, rfl, hle, Km', B', hS, hT, hR, hst, hl1, hl2, hl3, hnn⟩
      obtain ⟨Ks, Kt, Km, Kn, KN, Kr⟩ := Km'
      obtain ⟨nD, eD⟩ := B'.atL (a := Ds) (vs := vs') (by first | exact .head _ | exact .tail _ (.head _) | exact .tail _ (.tail _ (.head _)) | exact .tail _ (.tail _ (.tail _ (.head _))) | exact .tail _ (.tail _ (.tail _ (.tail _ (.head _)))) | exact .tail _ (.tail _ (.tail _ (.tail _ (.tail _ (.head _))))))
      have hi' : i < st.1.length := by lia  
      obtain ⟨vi, hvi, rvi⟩ := hS.get' (List.getElem?_eq_getElem hi')
      obtain ⟨q, hq⟩ : ∃ q, s.length - i = q + 1 := ⟨s.length - i - 1, by lia  ⟩
      have hq2 : s.length - (i + 1) = q := by lia  
      rw [hq] at hst
      have hst3 : cdS q (i + 1) (cdOne st (st.1.getD i none)) = cdS s.length 0 (s.map some, t.map some, []) := hst
      rw [List.getD_eq_getElem?_getD, List.getElem?_eq_getElem hi', Option.getD_some] at hst3
      refine enumTurn R'.hh V B' eD hvi (by rfl) (by rfl) fun h21 tk21 ti B21 => ?_
      refine sCons (sIf (tCmp (nameL V B21 (by rfl) upd_self (nameL V B21 (by rfl) (upd_of (upd_of KN)) (isVO B21.le (hle _ _ eN) rvi (truB ?_))))))
      cases ho : st.1[i] with
      | none =>
        rw [ho] at hst3
        refine kIf_t (by simp) ?_
        refine sCons (sCont ?_)
        refine ⟨_, _, _, vs', us', rs', g', st, rfl, hle, ⟨upd_of (upd_of Ks), upd_of (upd_of Kt), upd_of (upd_of Km), upd_of (upd_of Kn), upd_of (upd_of KN), upd_of (upd_of Kr)⟩, B21, hS, hT, hR, by rw [hq2]; exact hst3, hl1, hl2, by lia  , fun k hk => ?_⟩
        rcases Nat.lt_or_eq_of_le (Nat.le_of_lt_succ hk) with hk | rfl
        · exact hnn k hk
        · rw [List.getElem?_eq_getElem hi', ho]
      | some x =>
        rw [ho] at hst3 rvi
        refine kIf_f (by simp) ?_
        refine sNil (sCons (sTwo (cInt fun t22 tk22 => assignL V B21 (by rfl) fun h22 tk22' B22 => assignL V B22 (by rfl) fun h23 tk23 B23 => ?_)))
        obtain ⟨m3, B23, kN, kr, ks, kt, km, kn, Ki, Ke, Kcs, Kct⟩ : ∃ m3 : Str → Option Value, Bd hp g L cs m3 cm [(e, isEnum it (i + 1)), (it, listIt Ds (i + 1)), (Ds, isLst vs'), (Dt, isLst us'), (Dr, isLst rs')] g' h23 ∧
            m3 "NULL" = some (.ref N) ∧ m3 "result" = some (.ref Dr) ∧ m3 "s" = some (.ref Ds) ∧ m3 "t" = some (.ref Dt) ∧ m3 "m" = some (.int (s.length : Nat) t9) ∧ m3 "n" = some (.int (t.length : Nat) t10) ∧
            m3 "i" = some (.int (i : Nat) ti) ∧ m3 "elem" = some vi ∧ m3 "cnt_s" = some (.int 0 t22) ∧ m3 "cnt_t" = some (.int 0 t22) :=
          ⟨_, B23, upd_of (upd_of (upd_of (upd_of KN))), upd_of (upd_of (upd_of (upd_of Kr))), upd_of (upd_of (upd_of (upd_of Ks))), upd_of (upd_of (upd_of (upd_of Kt))), upd_of (upd_of (upd_of (upd_of Km))), upd_of (upd_of (upd_of (upd_of Kn))), upd_of (upd_of (upd_of upd_self)), upd_of (upd_of upd_self), upd_of upd_self, upd_self⟩
        -- for j in range(i, m)
        have B23' := B23.perm (List.perm_middle (l₁ := [(e, isEnum it (i + 1)), (it, listIt Ds (i + 1))]) (l₂ := [(Dt, isLst us'), (Dr, isLst rs')]) (a := (Ds, isLst vs')))
        refine sCons (markLoop (S := st.1) (x := x) (N := N) (it := ti) (im := t9) V B23' (G.mono B23.kp) (R'.less (Nat.zero_le _)) (by rfl) (by rfl) (by rfl) (by rfl) (by rfl) (by rfl) (by rfl) (by rfl) (by decide) (by decide) (by decide) (by decide) (by decide) (by decide) (by decide)
          ks Ki (km.trans (by rw [hl1])) Ke kN Kcs hS rvi (hle _ _ eN) (by lia  ) (by lia  ) fun h24 tk24 m4 vs4 t4 hm4 hc4 B24 hS4 => ?_)
        obtain ⟨z1, z2⟩ := nul_all (x := x) (Nat.le_of_lt hi') hnn
        rw [z1] at hS4
        rw [z2] at hc4
        have kN4 := (hm4 "NULL" (by decide) (by decide)).trans kN
        have kr4 := (hm4 "result" (by decide) (by decide)).trans kr
        have ks4 := (hm4 "s" (by decide) (by decide)).trans ks
        have kt4 := (hm4 "t" (by decide) (by decide)).trans kt
        have km4 := (hm4 "m" (by decide) (by decide)).trans km
        have kn4 := (hm4 "n" (by decide) (by decide)).trans kn
        have ke4 := (hm4 "elem" (by decide) (by decide)).trans Ke
        have kc4 := (hm4 "cnt_t" (by decide) (by decide)).trans Kct
        -- for j, other_elem in enumerate(t)
        have B24' := B24.perm (List.perm_middle (l₁ := [(Ds, isLst vs4), (e, isEnum it (i + 1)), (it, listIt Ds (i + 1))]) (l₂ := [(Dr, isLst rs')]) (a := (Dt, isLst us')))
        refine sCons (markEnum (S := st.2.1) (x := x) (N := N) V B24' (G.mono B24.kp) (R'.less (Nat.zero_le _)) (by rfl) (by rfl) (by rfl) (by rfl) (by rfl) (by rfl) (by rfl) kt4 ke4 kN4 kc4 hT rvi (hle _ _ eN) (by lia  ) fun h25 tk25 m5 us5 t5 hm5 hc5 B25 hT5 => ?_)
        obtain ⟨z3, z4⟩ := nul_whole x st.2.1
        rw [z3] at hT5
        rw [z4] at hc5
        have kN5 := (hm5 "NULL" (by decide) (by decide) (by decide)).trans kN4
        have kr5 := (hm5 "result" (by decide) (by decide) (by decide)).trans kr4
        have ks5 := (hm5 "s" (by decide) (by decide) (by decide)).trans ks4
        have kt5 := (hm5 "t" (by decide) (by decide) (by decide)).trans kt4
        have km5 := (hm5 "m" (by decide) (by decide) (by decide)).trans km4
        have kn5 := (hm5 "n" (by decide) (by decide) (by decide)).trans kn4
        have ke5 := (hm5 "elem" (by decide) (by decide) (by decide)).trans ke4
        have kc5 := (hm5 "cnt_s" (by decide) (by decide) (by decide)).trans hc4
        have B26 := B25.perm (List.perm_middle (l₁ := [(Dt, isLst us5), (Ds, isLst vs4), (e, isEnum it (i + 1)), (it, listIt Ds (i + 1))]) (l₂ := []) (a := (Dr, isLst rs')))
        have back : ∀ rs6, List.Perm [(Dr, isLst rs6), (Dt, isLst us5), (Ds, isLst vs4), (e, isEnum it (i + 1)), (it, listIt Ds (i + 1))] [(e, isEnum it (i + 1)), (it, listIt Ds (i + 1)), (Ds, isLst vs4), (Dt, isLst us5), (Dr, isLst rs6)] := fun rs6 => by
          refine .trans (List.perm_middle (l₁ := [(Dt, isLst us5), (Ds, isLst vs4), (e, isEnum it (i + 1)), (it, listIt Ds (i + 1))]) (l₂ := []) (a := (Dr, isLst rs6))).symm ?_
          refine .trans (List.perm_middle (l₁ := [(Ds, isLst vs4), (e, isEnum it (i + 1)), (it, listIt Ds (i + 1))]) (l₂ := [(Dr, isLst rs6)]) (a := (Dt, isLst us5))).symm ?_
          exact (List.perm_middle (l₁ := [(e, isEnum it (i + 1)), (it, listIt Ds (i + 1))]) (l₂ := [(Dt, isLst us5), (Dr, isLst rs6)]) (a := (Ds, isLst vs4))).symm
        have hnext := nul_next hnn (by rw [List.getElem?_eq_getElem hi', ho] : st.1[i]? = some (some x))
        -- if cnt_s != cnt_t
        refine sCons (sIf (tCmp (nameL V B26 (by rfl) kc5 (nameL V B26 (by rfl) hc5 (iNe (truB ?_))))))
        by_cases hne : cntO x st.1 = cntO x st.2.1
        · refine kIf_f (by simp [hne]) ?_
          refine sNil (sNil ⟨_, _, _, vs4, us5, rs', g', (nul x st.1, nul x st.2.1, st.2.2), rfl, hle, ⟨ks5, kt5, km5, kn5, kN5, kr5⟩, B26.perm (back _), hS4, hT5, hR, ?_, (nul_len ..).trans hl1, (nul_len ..).trans hl2, by show st.2.2.length ≤ _; lia  , hnext⟩)
          rw [hq2, ← hst3]
          show _ = cdS q (i + 1) (nul x st.1, nul x st.2.1, if cntO x st.1 = cntO x st.2.1 then st.2.2 else _)
          rw [if_pos hne]
        · refine kIf_t (by simp; lia  ) ?_
          refine (sMis (d := (cntO x st.1, cntO x st.2.1, x)) (Q := kSeq pg w (A.deeper env) env [] _) V B26 (G.mono B26.kp) R' (fun tk Q k => nameL V B26 (by rfl) kc5 (k _ _ ⟨t4, rfl⟩)) (fun tk Q k => nameL V B26 (by rfl) hc5 (k _ _ ⟨t5, rfl⟩)) ke5 kr5 rvi hR (by lia  ) (by rfl) (by rfl) (by rfl) (by rfl) (by rfl) (by rfl) fun g6 h6 tk6 m6 rs6 hm6 l6 B6 hR6 => sNil ?_)
          refine ⟨_, _, _, vs4, us5, rs6, g6, (nul x st.1, nul x st.2.1, st.2.2 ++ [(cntO x st.1, cntO x st.2.1, x)]), rfl, hle.tr l6,
            ⟨(hm6 _ (by decide)).trans ks5, (hm6 _ (by decide)).trans kt5, (hm6 _ (by decide)).trans km5, (hm6 _ (by decide)).trans kn5, (hm6 _ (by decide)).trans kN5, (hm6 _ (by decide)).trans kr5⟩, B6.perm (back _), AllVO.mono l6 hS4, AllVO.mono l6 hT5, hR6, ?_, (nul_len ..).trans hl1, (nul_len ..).trans hl2, by simp; lia  , hnext⟩
          rw [hq2, ← hst3]
          show _ = cdS q (i + 1) (nul x st.1, nul x st.2.1, if cntO x st.1 = cntO x st.2.1 then st.2.2 else _)
          rw [if_neg hne]
end
end Mine
end
section
/-! sums over lists; forests of a bounded depth -/
namespace Mine
noncomputable def sm {α : Type} (l : List α) (f : α → Rat) : Rat := (l.map f).sum
section
variable {α β : Type}
theorem sm_nil (f : α → Rat) : sm [] f = 0 := rfl
theorem sm_cons (x : α) (l : List α) (f : α → Rat) : sm (x :: l) f = f x + sm l f := by simp [sm]
theorem sm_one (x : α) (f : α → Rat) : sm [x] f = f x := by rw [sm_cons, sm_nil]; grind
theorem sm_app (l k : List α) (f : α → Rat) : sm (l ++ k) f = sm l f + sm k f := by
  induction l with
  | nil => rw [List.nil_append, sm_nil]; grind
  | cons x l ih => rw [List.cons_append, sm_cons, sm_cons, ih]; grind
theorem sm_map (g : β → α) (l : List β) (f : α → Rat) : sm (l.map g) f = sm l fun x => f (g x) := by simp [sm, Function.comp_def]
theorem sm_flat (g : β → List α) (f : α → Rat) : ∀ l : List β, sm (l.flatMap g) f = sm l fun x => sm (g x) f
  | [] => rfl
  | x :: l => by rw [List.flatMap_cons, sm_app, sm_cons, sm_flat g f l]
theorem sm_congr {l : List α} {f g : α → Rat} (h : ∀ x ∈ l, f x = g x) : sm l f = sm l g := by
  unfold sm; rw [List.map_congr_left h]
theorem sm_zero (l : List α) : sm l (fun _ => 0) = 0 := by
  induction l with
  | nil => rfl
  | cons x l ih => rw [sm_cons, ih]; grind
theorem sm_zero' {l : List α} {f : α → Rat} (h : ∀ x ∈ l, f x = 0) : sm l f = 0 := (sm_congr h).trans (sm_zero l)
theorem sm_add (l : List α) (f g : α → Rat) : sm l (fun x => f x + g x) = sm l f + sm l g := by
  induction l with
  | nil => simp [sm_nil]; grind
  | cons x l ih => rw [sm_cons, sm_cons, sm_cons, ih]; grind
theorem sm_mul (c : Rat) (l : List α) (f : α → Rat) : sm l (fun x => c * f x) = c * sm l f := by
  induction l with
  | nil => simp [sm_nil]
  | cons x l ih => rw [sm_cons, sm_cons, ih]; grind
theorem sm_swap (l : List α) (k : List β) (f : α → β → Rat) : sm l (fun x => sm k fun y => f x y) = sm k fun y => sm l fun x => f x y := by
  induction l with
  | nil => rw [sm_nil, sm_congr (g := fun _ => 0) (fun y _ => sm_nil _), sm_zero]
  | cons x l ih =>
    rw [sm_cons, ih, ← sm_add]
    exact sm_congr fun y _ => (sm_cons x l fun x => f x y).symm
theorem sm_filter (p : α → Bool) (l : List α) (f : α → Rat) : sm (l.filter p) f = sm l fun x => if p x then f x else 0 := by
  induction l with
  | nil => rfl
  | cons x l ih =>
    rw [List.filter_cons, sm_cons]
    by_cases h : p x = true
    · rw [if_pos h, if_pos h, sm_cons, ih]
    · rw [if_neg h, if_neg h, ih]; grind
theorem sm_ite (c : Prop) [Decidable c] (l : List α) (f : α → Rat) : sm l (fun x => if c then f x else 0) = if c then sm l f else 0 := by
  by_cases h : c
  · simp [h]
  · simp [h, sm_zero]
end

noncomputable def cmb (t u : Tr) : Tr := (t.1 ++ u.1, t.2.1 + u.2.1, t.2.2 * u.2.2)
noncomputable def upT (t : Tr) : Tr := (t.1, t.2.1 + 1, t.2.2 * (1 + t.2.1))
theorem cmb_assoc (a b c : Tr) : cmb (cmb a b) c = cmb a (cmb b c) := by
  unfold cmb; simp [Nat.add_assoc, Nat.mul_assoc]
theorem cmb_one (a : Tr) : cmb a ([], 0, 1) = a := by unfold cmb; simp
theorem one_cmb (a : Tr) : cmb ([], 0, 1) a = a := by unfold cmb; simp
noncomputable def T1w (S : List (List Int)) (rec : List Int → List Tr) (x : Int) : List Tr := if x < 256 then [([x], 0, 1)] else (sidesFor S x).flatMap fun side => (rec side).map upT
noncomputable def FDw (S : List (List Int)) (rec : List Int → List Tr) : List Int → List Tr
  | [] => [([], 0, 1)]
  | x :: row => (T1w S rec x).flatMap fun t => (FDw S rec row).map (cmb t)
/-- the forests below a row, of depth n at most -/
noncomputable def FD (S : List (List Int)) : Nat → List Int → List Tr
  | 0 => FDw S fun _ => []
  | n + 1 => FDw S (FD S n)
noncomputable def T1 (S : List (List Int)) : Nat → Int → List Tr
  | 0 => T1w S fun _ => []
  | n + 1 => T1w S (FD S n)
noncomputable def bd (l : Nat) (f : Tr → Rat) (t : Tr) : Rat := if t.2.1 ≤ l then f t else 0
variable {S : List (List Int)} {n : Nat}
theorem FD_nil : FD S n [] = [([], 0, 1)] := by cases n <;> rfl
theorem FD_cons (x : Int) (row : List Int) : FD S n (x :: row) = (T1 S n x).flatMap fun t => (FD S n row).map (cmb t) := by cases n <;> rfl
theorem sFD_nil (f : Tr → Rat) : sm (FD S n []) f = f ([], 0, 1) := by rw [FD_nil, sm_one]
theorem sFD_cons (x : Int) (row : List Int) (f : Tr → Rat) : sm (FD S n (x :: row)) f = sm (T1 S n x) fun t => sm (FD S n row) fun u => f (cmb t u) := by
  rw [FD_cons, sm_flat]; exact sm_congr fun t _ => sm_map ..
theorem sFD_app (a b : List Int) (f : Tr → Rat) : sm (FD S n (a ++ b)) f = sm (FD S n a) fun t => sm (FD S n b) fun u => f (cmb t u) := by
  induction a generalizing f with
  | nil => rw [List.nil_append, sFD_nil]; exact sm_congr fun u _ => by rw [one_cmb]
  | cons x a ih =>
    rw [List.cons_append, sFD_cons, sFD_cons]
    refine sm_congr fun t _ => ?_
    rw [ih]
    exact sm_congr fun u _ => sm_congr fun v _ => by rw [cmb_assoc]
theorem T1_term {x : Int} (h : x < 256) : T1 S n x = [([x], 0, 1)] := by cases n <;> exact if_pos h
theorem sT1_nt {x : Int} (h : ¬ x < 256) (f : Tr → Rat) : sm (T1 S (n + 1) x) f = sm (sidesFor S x) fun side => sm (FD S n side) fun t => f (upT t) := by
  show sm (T1w S (FD S n) x) f = _
  unfold T1w
  rw [if_neg h, sm_flat]; exact sm_congr fun side _ => sm_map ..
theorem sT1_zero {x : Int} (h : ¬ x < 256) (f : Tr → Rat) : sm (T1 S 0 x) f = 0 := by
  show sm (T1w S (fun _ => []) x) f = _
  unfold T1w
  rw [if_neg h, sm_flat]; exact sm_zero' fun side _ => rfl
theorem bd_cmb (l : Nat) (f : Tr → Rat) (t u : Tr) : bd l f (cmb t u) = bd l (fun t => bd (l - t.2.1) (fun u => f (cmb t u)) u) t := by
  have e : (cmb t u).2.1 = t.2.1 + u.2.1 := rfl
  unfold bd
  rw [e]
  by_cases h1 : t.2.1 ≤ l
  · rw [if_pos h1]
    show (if t.2.1 + u.2.1 ≤ l then f (cmb t u) else 0) = if u.2.1 ≤ l - t.2.1 then f (cmb t u) else 0
    by_cases h2 : u.2.1 ≤ l - t.2.1
    · rw [if_pos h2, if_pos (by lia  )]
    · rw [if_neg h2, if_neg (by lia  )]
  · rw [if_neg h1, if_neg (by lia  )]
theorem sm_bd {α : Type} (k : List α) (l : Nat) (f : α → Tr → Rat) (t : Tr) : sm k (fun x => bd l (fun t => f x t) t) = bd l (fun t => sm k fun x => f x t) t := by
  unfold bd
  by_cases h : t.2.1 ≤ l
  · simp [h]
  · simp [h, sm_zero]
theorem row_same {a b : Nat} {l : Nat} (hT : ∀ x l' f, l' ≤ l → sm (T1 S a x) (bd l' f) = sm (T1 S b x) (bd l' f)) : ∀ (row : List Int) (l' : Nat) (f : Tr → Rat), l' ≤ l → sm (FD S a row) (bd l' f) = sm (FD S b row) (bd l' f)
  | [], l', f, _ => by rw [sFD_nil, sFD_nil]
  | x :: row, l', f, h => by
    rw [sFD_cons, sFD_cons]
    have e : ∀ c, (sm (T1 S c x) fun t => sm (FD S c row) fun u => bd l' f (cmb t u)) = sm (T1 S c x) (bd l' fun t => sm (FD S c row) (bd (l' - t.2.1) fun u => f (cmb t u))) := fun c =>
      sm_congr fun t _ => by rw [← sm_bd]; exact sm_congr fun u _ => bd_cmb ..
    rw [e a, e b, hT x l' _ h]
    refine sm_congr fun t _ => ?_
    unfold bd
    split
    · exact row_same hT row _ _ (by lia  )
    · rfl
theorem T1_same : ∀ (n l : Nat) (x : Int) (f : Tr → Rat), l ≤ n → sm (T1 S (n + 1) x) (bd l f) = sm (T1 S n x) (bd l f)
  | n, l, x, f, h => by
    by_cases hx : x < 256
    · rw [T1_term hx, T1_term hx]
    match n, l, h with
    | 0, 0, _ =>
      rw [sT1_nt hx, sT1_zero hx]
      exact sm_zero' fun side _ => sm_zero' fun t _ => by unfold bd; exact if_neg (by show ¬ t.2.1 + 1 ≤ 0; lia  )
    | n + 1, 0, _ =>
      rw [sT1_nt hx, sT1_nt hx]
      have z : ∀ k, (sm (sidesFor S x) fun side => sm (FD S k side) fun t => bd 0 f (upT t)) = 0 := fun k => sm_zero' fun side _ => sm_zero' fun t _ => by unfold bd; exact if_neg (by show ¬ t.2.1 + 1 ≤ 0; lia  )
      rw [z, z]
    | n + 1, l + 1, h =>
      rw [sT1_nt hx, sT1_nt hx]
      have z : ∀ t, bd (l + 1) f (upT t) = bd l (fun t => f (upT t)) t := fun t => by
        unfold bd
        by_cases q : t.2.1 ≤ l
        · rw [if_pos q, if_pos (by show t.2.1 + 1 ≤ l + 1; lia  )]
        · rw [if_neg q, if_neg (by show ¬ t.2.1 + 1 ≤ l + 1; lia  )]
      refine sm_congr fun side _ => ?_
      simp only [z]
      exact row_same (l := l) (fun x l' f hl => T1_same n l' x f (by lia  )) side l _ (Nat.le_refl _)
theorem FD_same {n l : Nat} (h : l ≤ n) (row : List Int) (f : Tr → Rat) : sm (FD S (n + 1) row) (bd l f) = sm (FD S n row) (bd l f) :=
  row_same (l := l) (fun x l' f hl => T1_same n l' x f (by lia  )) row l f (Nat.le_refl _)
end Mine
end
section
/-! the law's trees are these forests -/
namespace Mine
variable {S : List (List Int)} {n : Nat}
theorem leaf_cmb (c : Int) (t : Tr) : leafStep c t = cmb t ([c], 0, 1) := by unfold leafStep cmb; simp
theorem join_cmb (t v : Tr) : joinTr t v = cmb t (upT v) := by
  unfold joinTr cmb upT; simp [Nat.mul_assoc]; omega
theorem bd_self {l : Nat} {f : Tr → Rat} {t : Tr} (h : t.2.1 ≤ l) : bd l f t = f t := if_pos h
theorem bd_out {l : Nat} {f : Tr → Rat} {t : Tr} (h : ¬ t.2.1 ≤ l) : bd l f t = 0 := if_neg h
theorem fold_sum {r : Nat} (f : Tr → Rat) (ih : ∀ (row : List Int) (r' : Nat) (f : Tr → Rat), r' < r → sm (treesR S n row r') (bd (r' - 1) f) = if r' = 0 then 0 else sm (FD S n row) (bd (r' - 1) f)) :
    ∀ (row : List Int) (found : List Tr), sm (row.foldl (signStep S (treesR S n) r) found) (bd (r - 1) f) = sm found fun t => sm (FD S (n + 1) row) fun u => bd (r - 1) f (cmb t u)
  | [], found => by
    rw [List.foldl_nil]
    exact sm_congr fun t _ => by rw [sFD_nil, cmb_one]
  | c :: row, found => by
    rw [List.foldl_cons, fold_sum f ih row]
    unfold signStep
    by_cases hc : c < 256
    · rw [if_pos hc, sm_map]
      refine sm_congr fun t _ => ?_
      rw [sFD_cons, T1_term hc, sm_one]
      exact sm_congr fun u _ => by rw [leaf_cmb, cmb_assoc]
    · rw [if_neg hc, sm_flat]
      refine sm_congr fun t _ => ?_
      unfold nodeStep
      rw [sm_flat, sFD_cons, sT1_nt hc]
      refine sm_congr fun side _ => ?_
      rw [sm_map]
      have e1 : ∀ v, (sm (FD S (n + 1) row) fun u => bd (r - 1) f (cmb (joinTr t v) u)) = bd (r - 1 - t.2.1 - 1) (fun v => if r - 1 - t.2.1 = 0 then 0 else sm (FD S (n + 1) row) fun u => bd (r - 1) f (cmb (joinTr t v) u)) v := fun v => by
        by_cases h0 : r - 1 - t.2.1 = 0
        · unfold bd; simp only [h0, if_true, ite_self]
          refine sm_zero' fun u _ => if_neg ?_
          show ¬ (t.2.1 + 1 + v.2.1) + u.2.1 ≤ r - 1; omega
        · by_cases h1 : v.2.1 ≤ r - 1 - t.2.1 - 1
          · rw [bd_self h1, if_neg h0]
          · rw [bd_out h1]
            refine sm_zero' fun u _ => bd_out ?_
            show ¬ (t.2.1 + 1 + v.2.1) + u.2.1 ≤ r - 1; omega
      have e2 : ∀ v, (sm (FD S (n + 1) row) fun u => bd (r - 1) f (cmb t (cmb (upT v) u))) = sm (FD S (n + 1) row) fun u => bd (r - 1) f (cmb (joinTr t v) u) := fun v => sm_congr fun u _ => by rw [join_cmb, cmb_assoc]
      simp only [e2]
      by_cases h0 : r - 1 - t.2.1 = 0
      · rw [sm_congr fun v _ => e1 v]
        rw [sm_congr (l := FD S n side) fun v _ => e1 v]
        simp only [h0, if_true]
        have z : ∀ l : List Tr, sm l (bd (0 - 1) fun _ => 0) = 0 := fun l => sm_zero' fun v _ => by unfold bd; simp
        rw [z, z]
      · have q := ih side (r - 1 - t.2.1) (fun v => if r - 1 - t.2.1 = 0 then 0 else sm (FD S (n + 1) row) fun u => bd (r - 1) f (cmb (joinTr t v) u)) (by omega)
        rw [if_neg h0] at q
        rw [sm_congr fun v _ => e1 v]
        rw [sm_congr (l := FD S n side) fun v _ => e1 v]
        exact q
theorem trees_sum : ∀ (n : Nat) (row : List Int) (r : Nat) (f : Tr → Rat), r ≤ n → sm (treesR S n row r) (bd (r - 1) f) = if r = 0 then 0 else sm (FD S n row) (bd (r - 1) f)
  | 0, row, r, f, h => by
    obtain rfl : r = 0 := by omega
    rfl
  | n + 1, row, r, f, h => by
    show sm (if r = 0 then [] else row.foldl (signStep S (treesR S n) r) [([], 0, 1)]) _ = _
    by_cases h0 : r = 0
    · rw [if_pos h0, if_pos h0]; rfl
    · rw [if_neg h0, if_neg h0, fold_sum f (fun row r' f hr => trees_sum n row r' f (by omega)), sm_one]
      exact sm_congr fun u _ => by rw [one_cmb]
/-- the law's trees of at most five nodes -/
theorem trees6 (h3 : ∀ s ∈ S, s.length ≤ 3) (row : List Int) (f : Tr → Rat) : sm (treesR S 6 row 6) f = sm (FD S 6 row) (bd 5 f) := by
  have h := trees_sum (S := S) 6 row 6 f (Nat.le_refl _)
  rw [if_neg (by decide)] at h
  rw [← h]
  refine sm_congr fun t ht => (bd_self ?_).symm
  exact (((trees_ok h3 6 row 6 (Nat.le_refl _) (Nat.le_refl _)).2 (by decide)).each t ht).1

/-! a value of forms that the rounds keep -/
structure Val (S : List (List Int)) (p : List Nat → List Nat) (steps : Nat) (φ : List Int → Rat) (V : Nat → List Int → Rat) : Prop where
  done : ∀ l f, placesN f = [] → V l f = φ f
  grow : ∀ l f, l < steps → placesN f ≠ [] → (placesN f).length ≤ l + 1 → V (l + 1) f = sm (expand S p f) (V l)
  stop : ∀ l f, l ≤ steps → l < (placesN f).length → V l f = 0
theorem Val.keeps {p : List Nat → List Nat} {steps : Nat} {φ : List Int → Rat} {V : Nat → List Int → Rat} (H : Val S p steps φ V) : ∀ i, i ≤ steps → sm (lv S p steps i).1 φ + sm (lv S p steps i).2 (V (steps - i)) = V steps [256]
  | 0, _ => by show sm [] φ + sm [[256]] _ = _; rw [sm_nil, sm_one]; simp; grind
  | i + 1, h => by
    rw [← H.keeps i (by omega)]
    show sm ((lv S p steps i).1 ++ (lv S p steps i).2.filter ended) φ + sm ((lv S p steps i).2.flatMap (growOne S p (steps - i))) (V (steps - (i + 1))) = _
    rw [sm_app, sm_filter, sm_flat]
    obtain ⟨l, hl⟩ : ∃ l, steps - i = l + 1 := ⟨steps - i - 1, by omega⟩
    have hl' : steps - (i + 1) = l := by omega
    rw [hl, hl']
    have e : sm (lv S p steps i).2 (V (l + 1)) = sm (lv S p steps i).2 (fun f => if ended f then φ f else 0) + sm (lv S p steps i).2 fun f => sm (growOne S p (l + 1) f) (V l) := by
      rw [← sm_add]
      refine sm_congr fun f _ => ?_
      unfold growOne ended
      by_cases h0 : placesN f = []
      · rw [H.done _ _ h0]; simp [h0, sm_nil]; grind
      · by_cases h1 : (placesN f).length ≤ l + 1
        · rw [H.grow l f (by omega) h0 h1]; simp [h0, h1]; grind
        · rw [H.stop _ _ (by omega) (by omega)]; simp [h0, h1, sm_nil]; grind
    rw [e]; grind
theorem Val.sum {p : List Nat → List Nat} {steps : Nat} {φ : List Int → Rat} {V : Nat → List Int → Rat} (H : Val S p steps φ V) : sm (derived S p steps) φ = V steps [256] := by
  rw [← H.keeps steps (Nat.le_refl _)]
  show sm ((lv S p steps steps).1 ++ (lv S p steps steps).2.filter ended) φ = _
  rw [sm_app, sm_filter, Nat.sub_self]
  congr 1
  refine sm_congr fun f _ => ?_
  unfold ended
  by_cases h0 : placesN f = []
  · rw [H.done _ _ h0]; simp [h0]
  · rw [H.stop 0 f (Nat.zero_le _) (by cases h : placesN f with | nil => exact absurd h h0 | cons => simp)]; simp [h0]
end Mine
end
section
/-! derivations against forests -/
namespace Mine
variable {S : List (List Int)} {n : Nat}
theorem nt_iff {x : Int} : nt x = true ↔ ¬ x < 256 := by unfold nt; simp
theorem places_cons (x : Int) (row : List Int) : placesN (x :: row) = (if nt x then [0] else []) ++ (placesN row).map (· + 1) := by
  unfold placesN
  rw [List.length_cons, List.range_succ_eq_map, List.filter_cons, List.filter_map]
  have : ((fun k => nt ((x :: row).getD k 0)) ∘ Nat.succ) = fun k => nt (row.getD k 0) := by
    funext k; rfl
  rw [this]
  cases h : nt x with
  | true => rw [if_pos (by exact h), if_pos rfl]; rfl
  | false => rw [if_neg (by rw [show (x :: row).getD 0 0 = x from rfl, h]; decide), if_neg (by decide)]; rfl
theorem places_nil : placesN [] = [] := rfl
theorem T1_size {x : Int} {t : Tr} (h : t ∈ T1 S n x) : (if nt x then 1 else 0) ≤ t.2.1 := by
  by_cases hx : nt x = true
  · rw [if_pos hx]
    have hx' := nt_iff.mp hx
    cases n with
    | zero =>
      have h : t ∈ T1w S _ x := h
      unfold T1w at h; rw [if_neg hx'] at h
      obtain ⟨side, _, h⟩ := List.mem_flatMap.mp h
      cases h
    | succ n =>
      have h : t ∈ T1w S _ x := h
      unfold T1w at h; rw [if_neg hx'] at h
      obtain ⟨side, _, h⟩ := List.mem_flatMap.mp h
      obtain ⟨v, _, rfl⟩ := List.mem_map.mp h
      show 1 ≤ v.2.1 + 1; lia  
  · rw [if_neg hx]; exact Nat.zero_le _
theorem FD_size : ∀ {f : List Int} {t : Tr}, t ∈ FD S n f → (placesN f).length ≤ t.2.1
  | [], t, _ => Nat.zero_le _
  | x :: row, t, h => by
    rw [FD_cons] at h
    obtain ⟨a, ha, h⟩ := List.mem_flatMap.mp h
    obtain ⟨b, hb, rfl⟩ := List.mem_map.mp h
    have h1 := T1_size ha
    have h2 := FD_size hb
    rw [places_cons, List.length_append, List.length_map]
    show _ ≤ a.2.1 + b.2.1
    split at h1 <;> rename_i q <;> simp [q] <;> lia  
theorem FD_done : ∀ {f : List Int}, placesN f = [] → FD S n f = [(f, 0, 1)]
  | [], _ => FD_nil
  | x :: row, h => by
    rw [places_cons] at h
    have h1 := (List.append_eq_nil_iff.mp h).1
    have h2 := List.map_eq_nil_iff.mp (List.append_eq_nil_iff.mp h).2
    have hx : x < 256 := by
      by_cases q : nt x = true
      · rw [if_pos q] at h1; cases h1
      · rw [nt_iff] at q; exact Decidable.not_not.mp q
    rw [FD_cons, T1_term hx, FD_done h2]; rfl

noncomputable def wd (φ : List Int → Rat) (t : Tr) : Rat := φ t.1
/-- one chosen nonterminal is written out -/
theorem one_place {m l : Nat} (h : l ≤ m) {f : List Int} {k : Nat} (hk : k ∈ placesN f) (φ : List Int → Rat) : sm (FD S (m + 1) f) (bd (l + 1) (wd φ)) = sm (sidesFor S (f.getD k 0)) fun s => sm (FD S (m + 1) (subst f k s)) (bd l (wd φ)) := by
  have hlt := places_lt hk
  have hx : ¬ f.getD k 0 < 256 := nt_iff.mp (by unfold placesN at hk; simpa using (List.mem_filter.mp hk).2)
  have hf : f = f.take k ++ (f.getD k 0 :: f.drop (k + 1)) := by
    rw [List.getD_eq_getElem?_getD, List.getElem?_eq_getElem hlt]
    show f = _ ++ (f[k] :: _)
    rw [← List.drop_eq_getElem_cons hlt, List.take_append_drop]
  generalize f.getD k 0 = x at hx hf ⊢
  have e : sm (FD S (m + 1) f) (bd (l + 1) (wd φ)) = sm (FD S (m + 1) (f.take k ++ (x :: f.drop (k + 1)))) (bd (l + 1) (wd φ)) := by rw [← hf]
  rw [e]
  unfold subst
  generalize f.take k = pre
  generalize f.drop (k + 1) = post
  rw [sFD_app]
  have e1 : ∀ a, (sm (FD S (m + 1) (x :: post)) fun u => bd (l + 1) (wd φ) (cmb a u)) = sm (sidesFor S x) fun s => sm (FD S m s) fun b => sm (FD S (m + 1) post) fun c => bd l (wd φ) (cmb a (cmb b c)) := fun a => by
    rw [sFD_cons, sT1_nt hx]
    refine sm_congr fun s _ => sm_congr fun b _ => sm_congr fun c _ => ?_
    unfold bd
    have e2 : (cmb a (cmb (upT b) c)).2.1 = (cmb a (cmb b c)).2.1 + 1 := by show a.2.1 + ((b.2.1 + 1) + c.2.1) = a.2.1 + (b.2.1 + c.2.1) + 1; lia  
    have e3 : wd φ (cmb a (cmb (upT b) c)) = wd φ (cmb a (cmb b c)) := rfl
    rw [e2, e3]
    by_cases q : (cmb a (cmb b c)).2.1 ≤ l
    · rw [if_pos q, if_pos (by lia  )]
    · rw [if_neg q, if_neg (by lia  )]
  simp only [e1]
  rw [sm_swap]
  refine sm_congr fun s _ => ?_
  rw [List.append_assoc, sFD_app]
  refine sm_congr fun a _ => ?_
  rw [sFD_app]
  have e4 : ∀ b, (sm (FD S (m + 1) post) fun c => bd l (wd φ) (cmb a (cmb b c))) = bd l (fun b => sm (FD S (m + 1) post) fun c => bd l (wd φ) (cmb a (cmb b c))) b := fun b => by
    by_cases q : b.2.1 ≤ l
    · rw [bd_self q]
    · rw [bd_out q]
      refine sm_zero' fun c _ => bd_out ?_
      show ¬ a.2.1 + (b.2.1 + c.2.1) ≤ l; lia  
  rw [sm_congr fun b _ => e4 b, sm_congr (l := FD S (m + 1) s) fun b _ => e4 b, FD_same h]
theorem bd_stop {l : Nat} {f : List Int} {g : Tr → Rat} (h : l < (placesN f).length) : sm (FD S n f) (bd l g) = 0 :=
  sm_zero' fun t ht => bd_out (by have := FD_size ht; lia  )
/-- always one place: leftmost, rightmost -/
theorem val_one {p : List Nat → List Nat} (hp : ∀ l, l ≠ [] → ∃ k ∈ l, p l = [k]) {steps : Nat} (h : steps ≤ n + 1) (φ : List Int → Rat) : Val S p steps φ fun l f => sm (FD S (n + 1) f) (bd l (wd φ)) where
  done := fun l f h => by rw [FD_done h, sm_one]; exact bd_self (Nat.zero_le _)
  stop := fun l f _ h => bd_stop h
  grow := fun l f hl h0 _ => by
    obtain ⟨k, hk, e⟩ := hp _ h0
    rw [one_place (by lia  ) hk]
    unfold expand
    rw [e, List.flatMap_cons, List.flatMap_nil, List.append_nil, sm_map]

/-! in any order: Knuth's count -/
noncomputable def fact : Nat → Nat
  | 0 => 1
  | n + 1 => (n + 1) * fact n
noncomputable def qs (n : Nat) (S : List (List Int)) (f : List Int) (F : List Int → Nat → Rat) : Rat := sm (FD S n f) fun t => (t.2.2 : Rat)⁻¹ * F t.1 t.2.1
theorem fact_mul : ∀ a b : Nat, fact a * fact b ∣ fact (a + b)
  | 0, b => by simp [fact]
  | a + 1, 0 => by simp [fact]
  | a + 1, b + 1 => by
    have h1 := fact_mul a (b + 1)
    have h2 := fact_mul (a + 1) b
    have e : fact (a + 1 + (b + 1)) = (a + 1) * fact (a + (b + 1)) + (b + 1) * fact (a + 1 + b) := by
      show (a + 1 + b + 1) * fact (a + 1 + b) = _
      rw [show a + (b + 1) = a + 1 + b by lia  , ← Nat.add_mul]; congr 1
    rw [e]
    refine Nat.dvd_add ?_ ?_
    · show (a + 1) * fact a * fact (b + 1) ∣ _
      rw [Nat.mul_assoc]; exact Nat.mul_dvd_mul_left _ h1
    · show fact (a + 1) * ((b + 1) * fact b) ∣ _
      rw [Nat.mul_left_comm]; exact Nat.mul_dvd_mul_left _ h2
noncomputable def Hk (t : Tr) : Prop := t.2.2 ≠ 0 ∧ t.2.2 ∣ fact t.2.1
theorem T1_hooks {n : Nat} {x : Int} {t : Tr} (ih : ∀ m, n = m + 1 → ∀ f t, t ∈ FD S m f → Hk t) (h : t ∈ T1 S n x) : Hk t := by
  by_cases hx : x < 256
  · rw [T1_term hx] at h; rw [List.mem_singleton.mp h]; exact ⟨Nat.one_ne_zero, Nat.one_dvd _⟩
  · cases n with
    | zero =>
      have h : t ∈ T1w S _ x := h
      unfold T1w at h; rw [if_neg hx] at h
      obtain ⟨side, _, h⟩ := List.mem_flatMap.mp h
      cases h
    | succ n =>
      have h : t ∈ T1w S _ x := h
      unfold T1w at h; rw [if_neg hx] at h
      obtain ⟨side, _, h⟩ := List.mem_flatMap.mp h
      obtain ⟨v, hv, rfl⟩ := List.mem_map.mp h
      obtain ⟨h1, h2⟩ := ih n rfl _ _ hv
      refine ⟨Nat.mul_ne_zero h1 (show 1 + v.2.1 ≠ 0 by lia  ), ?_⟩
      show v.2.2 * (1 + v.2.1) ∣ (v.2.1 + 1) * fact v.2.1
      rw [Nat.mul_comm, Nat.add_comm 1]; exact Nat.mul_dvd_mul_left _ h2
theorem row_hooks {n : Nat} (ih : ∀ m, n = m + 1 → ∀ f t, t ∈ FD S m f → Hk t) : ∀ (f : List Int) (t : Tr), t ∈ FD S n f → Hk t
  | [], t, h => by rw [FD_nil] at h; rw [List.mem_singleton.mp h]; exact ⟨Nat.one_ne_zero, Nat.one_dvd _⟩
  | x :: row, t, h => by
    rw [FD_cons] at h
    obtain ⟨a, ha, h⟩ := List.mem_flatMap.mp h
    obtain ⟨b, hb, rfl⟩ := List.mem_map.mp h
    obtain ⟨a1, a2⟩ := T1_hooks ih ha
    obtain ⟨b1, b2⟩ := row_hooks ih row b hb
    exact ⟨Nat.mul_ne_zero a1 b1, Nat.dvd_trans (Nat.mul_dvd_mul a2 b2) (fact_mul _ _)⟩
theorem FD_hooks : ∀ (n : Nat) (f : List Int) (t : Tr), t ∈ FD S n f → Hk t
  | 0, f, t, h => row_hooks (n := 0) (fun m e => by lia  ) f t h
  | n + 1, f, t, h => row_hooks (n := n + 1) (fun m e f t h => FD_hooks m f t h) f t h
termination_by n => n
decreasing_by lia  

theorem sum_places (p : List Nat) (x : Bool) (f : Nat → Rat) : sm ((if x then [0] else []) ++ p.map (· + 1)) f = (if x then f 0 else 0) + sm p fun k => f (k + 1) := by
  rw [sm_app, sm_map]
  cases x with
  | true => rw [if_pos rfl, if_pos rfl, sm_one]
  | false => rw [if_neg (by decide), if_neg (by decide), sm_nil]
theorem hook_sum {m L : Nat} (h : L ≤ m) : ∀ (f : List Int) (F : List Int → Nat → Rat), (∀ w s, L < s → F w s = 0) →
    (sm (placesN f) fun k => sm (sidesFor S (f.getD k 0)) fun s => qs (m + 1) S (subst f k s) F) = qs (m + 1) S f fun w s => (s : Rat) * F w (s - 1)
  | [], F, hF => by
    unfold qs
    rw [sFD_nil, places_nil, sm_nil]; simp
  | x :: row, F, hF => by
    rw [places_cons, sum_places]
    -- the first one
    have first : (if nt x then sm (sidesFor S ((x :: row).getD 0 0)) fun s => qs (m + 1) S (subst (x :: row) 0 s) F else 0) =
        sm (T1 S (m + 1) x) fun t => sm (FD S (m + 1) row) fun u => ((cmb t u).2.2 : Rat)⁻¹ * ((t.2.1 : Rat) * F (cmb t u).1 ((cmb t u).2.1 - 1)) := by
      by_cases hx : nt x = true
      · rw [if_pos hx, sT1_nt (nt_iff.mp hx)]
        show (sm (sidesFor S x) fun s => qs (m + 1) S (subst (x :: row) 0 s) F) = _
        refine sm_congr fun s _ => ?_
        have e : subst (x :: row) 0 s = s ++ row := rfl
        unfold qs
        rw [e, sFD_app]
        have e4 : ∀ b, (sm (FD S (m + 1) row) fun u => ((cmb b u).2.2 : Rat)⁻¹ * F (cmb b u).1 (cmb b u).2.1) = bd L (fun b => sm (FD S (m + 1) row) fun u => ((cmb b u).2.2 : Rat)⁻¹ * F (cmb b u).1 (cmb b u).2.1) b := fun b => by
          by_cases q : b.2.1 ≤ L
          · rw [bd_self q]
          · rw [bd_out q]
            refine sm_zero' fun u _ => ?_
            rw [hF _ (cmb b u).2.1 (show L < b.2.1 + u.2.1 by lia  )]; grind
        rw [sm_congr fun b _ => e4 b, FD_same h, ← sm_congr fun b _ => e4 b]
        refine sm_congr fun b _ => sm_congr fun u _ => ?_
        have e5 : (cmb (upT b) u).1 = (cmb b u).1 := rfl
        have e6 : (cmb (upT b) u).2.1 - 1 = (cmb b u).2.1 := by show b.2.1 + 1 + u.2.1 - 1 = b.2.1 + u.2.1; lia  
        have e7 : ((cmb (upT b) u).2.2 : Rat) = (b.2.2 : Rat) * (1 + (b.2.1 : Rat)) * (u.2.2 : Rat) := by show ((b.2.2 * (1 + b.2.1) * u.2.2 : Nat) : Rat) = _; push_cast; rfl
        have e8 : ((cmb b u).2.2 : Rat) = (b.2.2 : Rat) * (u.2.2 : Rat) := by show ((b.2.2 * u.2.2 : Nat) : Rat) = _; push_cast; rfl
        have e9 : ((upT b).2.1 : Rat) = 1 + (b.2.1 : Rat) := by show ((b.2.1 + 1 : Nat) : Rat) = _; push_cast; grind
        rw [e5, e6, e7, e8, e9]
        have hz : (1 + (b.2.1 : Rat)) ≠ 0 := by
          have : (0 : Rat) ≤ (b.2.1 : Rat) := Rat.natCast_nonneg
          intro e; have e' : (b.2.1 : Rat) = -1 := by grind
          rw [e'] at this; exact absurd this (by decide)
        rw [Rat.inv_mul_rev, Rat.inv_mul_rev, Rat.inv_mul_rev]
        have hi := Rat.inv_mul_cancel _ hz
        generalize (b.2.2 : Rat)⁻¹ = p1, (u.2.2 : Rat)⁻¹ = p2, (1 + (b.2.1 : Rat))⁻¹ = p3, (1 + (b.2.1 : Rat)) = p4 at *
        grind
      · rw [if_neg hx, T1_term (by rw [nt_iff] at hx; exact Decidable.not_not.mp hx), sm_one]
        exact (sm_zero' fun u _ => by show _ * ((0 : Nat) * _ : Rat) = 0; grind).symm
    have rest : (sm (placesN row) fun k => sm (sidesFor S ((x :: row).getD (k + 1) 0)) fun s => qs (m + 1) S (subst (x :: row) (k + 1) s) F) =
        sm (T1 S (m + 1) x) fun t => sm (FD S (m + 1) row) fun u => ((cmb t u).2.2 : Rat)⁻¹ * ((u.2.1 : Rat) * F (cmb t u).1 ((cmb t u).2.1 - 1)) := by
      have e1 : ∀ k s, qs (m + 1) S (subst (x :: row) (k + 1) s) F = sm (T1 S (m + 1) x) fun t => qs (m + 1) S (subst row k s) fun w z => (t.2.2 : Rat)⁻¹ * F (t.1 ++ w) (t.2.1 + z) := fun k s => by
        have e : subst (x :: row) (k + 1) s = x :: subst row k s := rfl
        unfold qs
        rw [e, sFD_cons]
        refine sm_congr fun t _ => sm_congr fun u _ => ?_
        have e8 : ((cmb t u).2.2 : Rat) = (t.2.2 : Rat) * (u.2.2 : Rat) := by show ((t.2.2 * u.2.2 : Nat) : Rat) = _; push_cast; rfl
        rw [e8, Rat.inv_mul_rev]
        show _ * F (t.1 ++ u.1) (t.2.1 + u.2.1) = _
        grind
      have e2 : (sm (placesN row) fun k => sm (sidesFor S ((x :: row).getD (k + 1) 0)) fun s => qs (m + 1) S (subst (x :: row) (k + 1) s) F) =
          sm (T1 S (m + 1) x) fun t => sm (placesN row) fun k => sm (sidesFor S (row.getD k 0)) fun s => qs (m + 1) S (subst row k s) fun w z => (t.2.2 : Rat)⁻¹ * F (t.1 ++ w) (t.2.1 + z) := by
        rw [sm_swap]
        refine sm_congr fun k _ => ?_
        rw [sm_swap]
        exact sm_congr fun s _ => e1 k s
      rw [e2]
      refine sm_congr fun t _ => ?_
      rw [hook_sum h row _ fun w s hs => by rw [hF _ _ (by lia  )]; grind]
      unfold qs
      refine sm_congr fun u _ => ?_
      have e8 : ((cmb t u).2.2 : Rat) = (t.2.2 : Rat) * (u.2.2 : Rat) := by show ((t.2.2 * u.2.2 : Nat) : Rat) = _; push_cast; rfl
      rw [e8, Rat.inv_mul_rev]
      show _ * ((u.2.1 : Rat) * (_ * F (t.1 ++ u.1) (t.2.1 + (u.2.1 - 1)))) = _ * ((u.2.1 : Rat) * F (t.1 ++ u.1) (t.2.1 + u.2.1 - 1))
      by_cases z : u.2.1 = 0
      · rw [z]; grind
      · rw [show t.2.1 + (u.2.1 - 1) = t.2.1 + u.2.1 - 1 by lia  ]; grind
    rw [first, rest, ← sm_add]
    unfold qs
    rw [sFD_cons]
    refine sm_congr fun t _ => ?_
    rw [← sm_add]
    refine sm_congr fun u _ => ?_
    have : ((cmb t u).2.1 : Rat) = (t.2.1 : Rat) + (u.2.1 : Rat) := by show ((t.2.1 + u.2.1 : Nat) : Rat) = _; push_cast; rfl
    show _ = ((cmb t u).2.2 : Rat)⁻¹ * (((cmb t u).2.1 : Rat) * F (cmb t u).1 ((cmb t u).2.1 - 1))
    rw [this]; grind
/-- the value of a form: its forests, each as often as it has orders -/
noncomputable def ordV (φ : List Int → Rat) (l : Nat) (w : List Int) (s : Nat) : Rat := if s ≤ l then (fact s : Rat) * φ w else 0
theorem val_any {steps : Nat} (h : steps ≤ n + 1) (φ : List Int → Rat) : Val S id steps φ fun l f => qs (n + 1) S f (ordV φ l) where
  done := fun l f h => by
    unfold qs ordV
    rw [FD_done h, sm_one]; simp [fact]; grind
  stop := fun l f _ h => by
    unfold qs ordV
    exact sm_zero' fun t ht => by rw [if_neg (by have := FD_size ht; lia  )]; grind
  grow := fun l f hl h0 _ => by
    unfold expand
    rw [sm_flat]
    have e : (sm (id (placesN f)) fun k => sm ((sidesFor S (f.getD k 0)).map fun s => subst f k s) fun f => qs (n + 1) S f (ordV φ l)) = sm (placesN f) fun k => sm (sidesFor S (f.getD k 0)) fun s => qs (n + 1) S (subst f k s) (ordV φ l) :=
      sm_congr fun k _ => sm_map ..
    rw [e, hook_sum (L := l) (by lia  ) f _ fun w s hs => by unfold ordV; exact if_neg (by lia  )]
    unfold qs
    refine sm_congr fun t ht => ?_
    have h1 : 1 ≤ t.2.1 := by
      have := FD_size ht
      have : (placesN f).length ≠ 0 := fun e => h0 (List.length_eq_zero_iff.mp e)
      lia  
    obtain ⟨z, hz⟩ : ∃ z, t.2.1 = z + 1 := ⟨t.2.1 - 1, by lia  ⟩
    unfold ordV
    rw [hz]
    show _ = _ * (((z + 1 : Nat) : Rat) * if z + 1 - 1 ≤ l then ((fact (z + 1 - 1) : Nat) : Rat) * φ t.1 else 0)
    rw [Nat.add_sub_cancel]
    by_cases q : z ≤ l
    · rw [if_pos q, if_pos (by lia  )]
      have : (fact (z + 1) : Rat) = ((z + 1 : Nat) : Rat) * (fact z : Rat) := by show (((z + 1) * fact z : Nat) : Rat) = _; push_cast; rfl
      rw [this]; grind
    · rw [if_neg q, if_neg (by lia  )]; grind
end Mine
end
section
/-! the counts that the law asks for -/
namespace Mine
variable {S : List (List Int)} {n : Nat}
noncomputable def ind (w x : List Int) : Rat := if x = w then 1 else 0
theorem sm_ind (w : List Int) (l : List (List Int)) : sm l (ind w) = ((l.count w : Nat) : Rat) := by
  induction l with
  | nil => rfl
  | cons x l ih =>
    rw [sm_cons, ih, List.count_cons]
    unfold ind
    by_cases h : x = w
    · simp [h]; grind
    · simp [h]; grind
theorem cast_inj {a b : Nat} (h : (a : Rat) = (b : Rat)) : a = b := by exact_mod_cast h
noncomputable def forest (S : List (List Int)) : List Tr := treesR S 6 [256] 6
noncomputable def OneP (p : List Nat → List Nat) : Prop := ∀ l, l ≠ [] → ∃ k ∈ l, p l = [k]
theorem one_first : OneP fun l => l.take 1 := fun l h => by
  cases l with
  | nil => exact absurd rfl h
  | cons k l => exact ⟨k, .head _, rfl⟩
theorem one_last : OneP fun l => l.drop (l.length - 1) := fun l h => by
  refine ⟨l.getLast h, List.getLast_mem h, ?_⟩
  have e := List.dropLast_concat_getLast h
  show l.drop (l.length - 1) = _
  have e2 : l.length - 1 = l.dropLast.length := by simp
  rw [e2]
  conv => lhs; rw [← e]
  simp
theorem one_count (h3 : ∀ s ∈ S, s.length ≤ 3) {p : List Nat → List Nat} (hp : OneP p) (w : List Int) : (derived S p 5).count w = ((forest S).map (·.1)).count w := by
  refine cast_inj ?_
  rw [← sm_ind, ← sm_ind, sm_map, (val_one (n := 5) hp (by decide) (ind w)).sum]
  exact (trees6 h3 [256] _).symm
theorem one_perm (h3 : ∀ s ∈ S, s.length ≤ 3) {p : List Nat → List Nat} (hp : OneP p) : (derived S p 5).Perm ((forest S).map (·.1)) := List.perm_iff_count.mpr fun w => one_count h3 hp w
theorem forest_small (h3 : ∀ s ∈ S, s.length ≤ 3) : (forest S).length ≤ 32 := ((trees_ok h3 6 [256] 6 (Nat.le_refl _) (Nat.le_refl _)).2 (by decide)).small (Nat.le_refl _)
theorem one_small (h3 : ∀ s ∈ S, s.length ≤ 3) {p : List Nat → List Nat} (hp : OneP p) : (derived S p 5).length ≤ 32 := by
  rw [(one_perm h3 hp).length_eq, List.length_map]; exact forest_small h3

/-- orders and shapes, as the law reckons them -/
noncomputable def ordersOf (F : List Tr) (w : List Int) : Nat := ((F.filter fun t => decide (t.1 = w) && decide (t.2.1 < 5)).map fun t => fact t.2.1 / t.2.2).sum
noncomputable def shapesOf (F : List Tr) (w : List Int) : Nat := (F.filter fun t => decide (t.1 = w)).length
theorem cast_sum (l : List Tr) (f : Tr → Nat) : (((l.map f).sum : Nat) : Rat) = sm l fun t => (f t : Rat) := by
  induction l with
  | nil => rfl
  | cons x l ih => rw [List.map_cons, List.sum_cons, sm_cons, ← ih]; push_cast; rfl
theorem cast_div {a b : Nat} (h : b ∣ a) (hb : b ≠ 0) : ((a / b : Nat) : Rat) = (b : Rat)⁻¹ * (a : Rat) := by
  obtain ⟨c, rfl⟩ := h
  rw [Nat.mul_div_cancel_left _ (Nat.pos_of_ne_zero hb)]
  have hz : (b : Rat) ≠ 0 := fun e => hb (cast_inj e)
  have := Rat.inv_mul_cancel _ hz
  push_cast
  generalize (b : Rat)⁻¹ = p at *
  grind
theorem any_count (h3 : ∀ s ∈ S, s.length ≤ 3) (w : List Int) : (derived S id 4).count w = ordersOf (forest S) w := by
  refine cast_inj ?_
  rw [← sm_ind, (val_any (n := 5) (by decide) (ind w)).sum]
  unfold ordersOf
  rw [cast_sum, sm_filter]
  unfold forest
  rw [trees6 h3]
  unfold qs
  refine sm_congr fun t ht => ?_
  obtain ⟨h1, h2⟩ := FD_hooks _ _ _ ht
  show (t.2.2 : Rat)⁻¹ * (if t.2.1 ≤ 4 then (fact t.2.1 : Rat) * (if t.1 = w then 1 else 0) else 0) = if t.2.1 ≤ 5 then (if (decide (t.1 = w) && decide (t.2.1 < 5)) = true then ((fact t.2.1 / t.2.2 : Nat) : Rat) else 0) else 0
  by_cases q : t.2.1 ≤ 4
  · rw [if_pos q, if_pos (show t.2.1 ≤ 5 by lia  )]
    by_cases z : t.1 = w
    · rw [if_pos z, if_pos (by simp [z]; lia  ), cast_div h2 h1]; grind
    · rw [if_neg z, if_neg (by simp [z])]; grind
  · rw [if_neg q]
    have e : ((decide (t.1 = w) && decide (t.2.1 < 5)) = true) = False := by simp; intro _; lia  
    simp only [e, if_false, ite_self]; grind
theorem shapes_count (h3 : ∀ s ∈ S, s.length ≤ 3) (w : List Int) : (derived S (fun l => l.take 1) 5).count w = shapesOf (forest S) w := by
  rw [one_count h3 one_first]
  unfold shapesOf
  rw [List.count_eq_countP, List.countP_map, List.countP_eq_length_filter]
  congr 1
  exact List.filter_congr fun t _ => by show (t.1 == w) = decide (t.1 = w); by_cases h : t.1 = w <;> simp [h]

/-! how many there are in any order -/
noncomputable def roomM : Nat → Nat → Nat
  | _, 0 => 1
  | 0, _ + 1 => 0
  | l + 1, n + 1 => if l + 1 < n + 1 then 0 else (n + 1) * (roomM l n + max (max (roomM l n) (roomM l (n + 1))) (max (roomM l (n + 2)) (roomM l (n + 3))))
theorem places_app : ∀ a b : List Int, (placesN (a ++ b)).length = (placesN a).length + (placesN b).length
  | [], b => by simp [places_nil]
  | x :: a, b => by
    rw [List.cons_append, places_cons, places_cons, List.length_append, List.length_append, List.length_map, List.length_map, places_app a b]; lia  
theorem places_len (a : List Int) : (placesN a).length ≤ a.length := by unfold placesN; exact Nat.le_trans (List.length_filter_le ..) (by simp)
theorem places_subst {f s : List Int} {k : Nat} (hk : k ∈ placesN f) : (placesN (subst f k s)).length + 1 = (placesN f).length + (placesN s).length := by
  have hlt := places_lt hk
  have hx : nt f[k] = true := by
    have h : nt (f.getD k 0) = true := by unfold placesN at hk; simpa using (List.mem_filter.mp hk).2
    rwa [List.getD_eq_getElem?_getD, List.getElem?_eq_getElem hlt] at h
  have hf : (placesN f).length = (placesN (f.take k)).length + ((placesN (f.drop (k + 1))).length + 1) := by
    have e : f = f.take k ++ (f[k] :: f.drop (k + 1)) := by rw [← List.drop_eq_getElem_cons hlt, List.take_append_drop]
    have e2 := congrArg (fun z => (placesN z).length) e
    rw [show (placesN f).length = _ from e2, places_app, places_cons, hx, List.length_append, List.length_map]
    simp; lia  
  unfold subst
  rw [places_app, places_app, hf]; lia  
theorem sum_le {α : Type} (f : α → Nat) (c : Nat) : ∀ l : List α, (∀ x ∈ l, f x ≤ c) → (l.map f).sum ≤ l.length * c
  | [], _ => by simp
  | x :: l, h => by
    rw [List.map_cons, List.sum_cons, List.length_cons, Nat.succ_mul]
    have := sum_le f c l fun y hy => h y (.tail _ hy)
    have := h x (.head _)
    lia  
theorem flat_sum {α β : Type} (f : β → Nat) (g : α → List β) : ∀ l : List α, ((l.flatMap g).map f).sum = (l.map fun x => ((g x).map f).sum).sum
  | [] => rfl
  | x :: l => by rw [List.flatMap_cons, List.map_append, List.sum_append, List.map_cons, List.sum_cons, flat_sum f g l]
theorem room_grow {l n : Nat} (h : n + 1 ≤ l + 1) : (n + 1) * (roomM l n + max (max (roomM l n) (roomM l (n + 1))) (max (roomM l (n + 2)) (roomM l (n + 3)))) = roomM (l + 1) (n + 1) := by
  rw [roomM, if_neg (by lia  )]
theorem any_room (h4 : S.length = 4) (h3 : ∀ s ∈ S, s.length ≤ 3) (ht : ∀ s ∈ S.drop 2, placesN s = []) (l : Nat) (f : List Int) : ((growOne S id (l + 1) f).map fun f => roomM l (placesN f).length).sum + (if ended f then 1 else 0) ≤ roomM (l + 1) (placesN f).length := by
  unfold growOne ended
  by_cases h0 : placesN f = []
  · simp [h0, roomM]
  rw [if_neg h0]
  obtain ⟨m, hm⟩ : ∃ m, (placesN f).length = m + 1 := ⟨(placesN f).length - 1, by have : (placesN f).length ≠ 0 := fun e => h0 (List.length_eq_zero_iff.mp e); lia  ⟩
  rw [hm]
  by_cases h1 : m + 1 ≤ l + 1
  · rw [if_pos h1, ← room_grow h1]
    simp only [h0, decide_false, Bool.false_eq_true, if_false, Nat.add_zero]
    unfold expand
    rw [flat_sum]
    refine Nat.le_trans (sum_le _ _ _ fun k hk => ?_) (Nat.le_of_eq (by rw [show (id (placesN f)).length = m + 1 from hm]))
    have hk : k ∈ placesN f := hk
    rw [List.map_map]
    have plain : ∀ i, 2 ≤ i → placesN (S.getD i []) = [] := fun i hi => by
      rw [List.getD_eq_getElem?_getD]
      cases e : S[i]? with
      | none => rfl
      | some y =>
        refine ht y ?_
        have : (S.drop 2)[i - 2]? = some y := by rw [List.getElem?_drop, show 2 + (i - 2) = i by lia  ]; exact e
        exact List.mem_of_getElem? this
    have len : ∀ i, (placesN (S.getD i [])).length ≤ 3 := fun i => by
      refine Nat.le_trans (places_len _) ?_
      rw [List.getD_eq_getElem?_getD]
      cases e : S[i]? with
      | none => simp
      | some y => exact h3 y (List.mem_of_getElem? e)
    have two : ∀ i j, 2 ≤ j → (([S.getD i [], S.getD j []] : List (List Int)).map ((fun f => roomM l (placesN f).length) ∘ fun s => subst f k s)).sum ≤ roomM l m + max (max (roomM l m) (roomM l (m + 1))) (max (roomM l (m + 2)) (roomM l (m + 3))) := fun i j hj => by
      have p1 := places_subst (s := S.getD i []) hk
      have p2 := places_subst (s := S.getD j []) hk
      have q1 := len i
      rw [plain j hj] at p2
      simp only [List.map_cons, List.map_nil, List.sum_cons, List.sum_nil, Function.comp_apply]
      have e2 : (placesN (subst f k (S.getD j []))).length = m := by simp at p2 ⊢; lia  
      rw [e2]
      have e1 : (placesN (subst f k (S.getD i []))).length = m ∨ (placesN (subst f k (S.getD i []))).length = m + 1 ∨ (placesN (subst f k (S.getD i []))).length = m + 2 ∨ (placesN (subst f k (S.getD i []))).length = m + 3 := by lia  
      rcases e1 with e | e | e | e <;> rw [e] <;> lia  
    unfold sidesFor
    split
    · exact two 0 2 (by decide)
    · exact two 1 3 (by decide)
  · rw [if_neg h1]; simp [h0]
theorem any_keeps (h4 : S.length = 4) (h3 : ∀ s ∈ S, s.length ≤ 3) (ht : ∀ s ∈ S.drop 2, placesN s = []) {steps : Nat} : ∀ i, i ≤ steps → (lv S id steps i).1.length + ((lv S id steps i).2.map fun f => roomM (steps - i) (placesN f).length).sum ≤ roomM steps 1
  | 0, _ => by
    show 0 + (([[256]] : List (List Int)).map fun f => roomM (steps - 0) (placesN f).length).sum ≤ _
    rw [show ([[256]] : List (List Int)).map (fun f => roomM (steps - 0) (placesN f).length) = [roomM steps 1] from rfl]; simp
  | i + 1, h => by
    refine Nat.le_trans ?_ (any_keeps h4 h3 ht i (by lia  ))
    obtain ⟨l, hl⟩ : ∃ l, steps - i = l + 1 := ⟨steps - i - 1, by lia  ⟩
    have hl' : steps - (i + 1) = l := by lia  
    show ((lv S id steps i).1 ++ (lv S id steps i).2.filter ended).length + (((lv S id steps i).2.flatMap (growOne S id (steps - i))).map fun f => roomM (steps - (i + 1)) (placesN f).length).sum ≤ _
    rw [hl, hl', List.length_append, flat_sum, Nat.add_assoc]
    refine Nat.add_le_add_left ?_ _
    generalize (lv S id steps i).2 = fs
    induction fs with
    | nil => simp
    | cons f fs ih =>
      have := any_room h4 h3 ht l f
      rw [List.map_cons, List.sum_cons, List.map_cons, List.sum_cons, List.filter_cons]
      by_cases e : ended f = true
      · rw [if_pos e] at this ⊢; rw [List.length_cons]; lia  
      · rw [if_neg e] at this ⊢; lia  
theorem any_small (h4 : S.length = 4) (h3 : ∀ s ∈ S, s.length ≤ 3) (ht : ∀ s ∈ S.drop 2, placesN s = []) : (derived S id 4).length ≤ 49 := by
  have h := any_keeps h4 h3 ht (steps := 4) 4 (Nat.le_refl _)
  have e : roomM 4 1 = 49 := by decide
  rw [e] at h
  refine Nat.le_trans ?_ h
  show ((lv S id 4 4).1 ++ (lv S id 4 4).2.filter ended).length ≤ _
  rw [List.length_append]
  refine Nat.add_le_add_left ?_ _
  generalize (lv S id 4 4).2 = fs
  induction fs with
  | nil => simp
  | cons f fs ih =>
    rw [List.map_cons, List.sum_cons, List.filter_cons]
    by_cases e : ended f = true
    · rw [if_pos e, List.length_cons]
      have : placesN f = [] := by simpa [ended] using e
      have : roomM (4 - 4) (placesN f).length = 1 := by rw [this]; rfl
      lia  
    · rw [if_neg e]; lia  
end Mine
end
section
/-! what count_diff and the difference come to -/
namespace Mine
noncomputable def marks (seen l : List (List Int)) : OL := l.map fun x => if x ∈ seen then none else some x
theorem nul_marks (x : List Int) (seen l : List (List Int)) : nul x (marks seen l) = marks (seen ++ [x]) l := by
  unfold nul marks
  rw [List.map_map]
  refine List.map_congr_left fun y _ => ?_
  by_cases h : y ∈ seen
  · simp [h]
  · by_cases e : y = x
    · simp [h, e]
    · simp [h, e]
theorem cnt_marks {x : List Int} {seen : List (List Int)} (hx : x ∉ seen) (l : List (List Int)) : cntO x (marks seen l) = l.count x := by
  unfold cntO marks
  induction l with
  | nil => rfl
  | cons y l ih =>
    rw [List.map_cons, List.filter_cons, List.count_cons]
    by_cases e : y = x
    · subst e; simp [hx, ih]
    · by_cases h : y ∈ seen
      · simp [h, e, ih]
      · simp [h, e, ih]
theorem marks_at {seen l : List (List Int)} {i : Nat} (h : i < l.length) : (marks seen l).getD i none = if l[i] ∈ seen then none else some l[i] := by
  unfold marks
  rw [List.getD_eq_getElem?_getD, List.getElem?_map, List.getElem?_eq_getElem h]; rfl
theorem marks_nil (l : List (List Int)) : marks [] l = l.map some := by unfold marks; simp
noncomputable def difs (s t seen : List (List Int)) : List Dif := (seen.filter fun x => decide (s.count x ≠ t.count x)).map fun x => (s.count x, t.count x, x)
theorem difs_snoc (s t seen : List (List Int)) (x : List Int) : difs s t (seen ++ [x]) = if s.count x = t.count x then difs s t seen else difs s t seen ++ [(s.count x, t.count x, x)] := by
  unfold difs
  rw [List.filter_append, List.map_append]
  by_cases h : s.count x = t.count x
  · simp [h]
  · simp [h]
theorem cdS_spec (s t : List (List Int)) : ∀ (n i : Nat) (seen : List (List Int)), i + n = s.length → cdS n i (marks seen s, marks seen t, difs s t seen) =
    (marks ((s.drop i).foldl onceStep seen) s, marks ((s.drop i).foldl onceStep seen) t, difs s t ((s.drop i).foldl onceStep seen))
  | 0, i, seen, h => by rw [List.drop_of_length_le (by lia  )]; rfl
  | n + 1, i, seen, h => by
    have hi : i < s.length := by lia  
    rw [List.drop_eq_getElem_cons hi, List.foldl_cons, ← cdS_spec s t n (i + 1) _ (by lia  )]
    show cdS n (i + 1) (cdOne _ ((marks seen s).getD i none)) = _
    rw [marks_at hi]
    unfold onceStep
    by_cases hm : s[i] ∈ seen
    · rw [if_pos hm, if_pos hm]; rfl
    · rw [if_neg hm, if_neg hm]
      show cdS n (i + 1) (nul s[i] (marks seen s), nul s[i] (marks seen t), if cntO s[i] (marks seen s) = cntO s[i] (marks seen t) then difs s t seen else difs s t seen ++ [(cntO s[i] (marks seen s), cntO s[i] (marks seen t), s[i])]) = _
      rw [nul_marks, nul_marks, cnt_marks hm, cnt_marks hm, difs_snoc]
theorem cdT_spec (s t : List (List Int)) : ∀ (n i : Nat) (seen : List (List Int)), i + n = t.length → (∀ x ∈ s, x ∈ seen) → cdT n i (marks seen t, difs s t seen) =
    (marks ((t.drop i).foldl onceStep seen) t, difs s t ((t.drop i).foldl onceStep seen))
  | 0, i, seen, h, _ => by rw [List.drop_of_length_le (by lia  )]; rfl
  | n + 1, i, seen, h, hs => by
    have hi : i < t.length := by lia  
    rw [List.drop_eq_getElem_cons hi, List.foldl_cons]
    show cdT n (i + 1) (cdTwo _ ((marks seen t).getD i none)) = _
    rw [marks_at hi]
    by_cases hm : t[i] ∈ seen
    · rw [if_pos hm, show onceStep seen t[i] = seen from if_pos hm]
      exact cdT_spec s t n (i + 1) seen (by lia  ) hs
    · rw [if_neg hm, show onceStep seen t[i] = seen ++ [t[i]] from if_neg hm, ← cdT_spec s t n (i + 1) _ (by lia  ) fun x hx => List.mem_append_left _ (hs x hx)]
      have h0 : s.count t[i] = 0 := List.count_eq_zero.mpr fun hx => hm (hs _ hx)
      have h1 : t.count t[i] ≠ 0 := fun e => List.count_eq_zero.mp e (List.getElem_mem hi)
      show cdT n (i + 1) (nul t[i] (marks seen t), difs s t seen ++ [(0, cntO t[i] (marks seen t), t[i])]) = _
      rw [nul_marks, cnt_marks hm, difs_snoc, h0, if_neg (Ne.symm h1)]
theorem once_sub (row : List (List Int)) : ∀ seen, (∀ x ∈ seen, x ∈ row.foldl onceStep seen) ∧ ∀ x ∈ row, x ∈ row.foldl onceStep seen := by
  induction row with
  | nil => exact fun seen => ⟨fun x h => h, fun x h => by cases h⟩
  | cons y row ih =>
    intro seen
    rw [List.foldl_cons]
    obtain ⟨i1, i2⟩ := ih (onceStep seen y)
    have hy : y ∈ onceStep seen y := by
      unfold onceStep; split
      · assumption
      · simp
    refine ⟨fun x h => i1 x ?_, fun x h => ?_⟩
    · unfold onceStep; split
      · exact h
      · simp [h]
    · rcases List.mem_cons.mp h with rfl | h
      · exact i1 _ hy
      · exact i2 x h
theorem cd_spec (s t : List (List Int)) : cdOf s t = difs s t (onceOf (s ++ t)) := by
  unfold cdOf
  have e1 := cdS_spec s t s.length 0 [] (by lia  )
  rw [marks_nil, marks_nil] at e1
  rw [show (s.map some, t.map some, ([] : List Dif)) = (s.map some, t.map some, difs s t []) from rfl, e1]
  have e2 := cdT_spec s t t.length 0 (s.foldl onceStep []) (by lia  ) (once_sub s []).2
  simp only [List.drop_zero] at e1 e2 ⊢
  rw [e2]
  unfold onceOf
  rw [List.foldl_append]
theorem once_nodup (row : List (List Int)) : ∀ seen, seen.Nodup → (row.foldl onceStep seen).Nodup := by
  induction row with
  | nil => exact fun seen h => h
  | cons y row ih =>
    intro seen h
    rw [List.foldl_cons]
    refine ih _ ?_
    unfold onceStep; split
    · exact h
    · rename_i q
      refine List.nodup_append.mpr ⟨h, by simp, fun a ha b hb e => q ?_⟩
      rw [List.mem_singleton.mp hb] at e
      exact e ▸ ha
theorem once_mem (row : List (List Int)) : ∀ seen x, x ∈ row.foldl onceStep seen → x ∈ seen ∨ x ∈ row := by
  induction row with
  | nil => exact fun seen x h => .inl h
  | cons y row ih =>
    intro seen x h
    rw [List.foldl_cons] at h
    rcases ih _ _ h with h | h
    · unfold onceStep at h; split at h
      · exact .inl h
      · rcases List.mem_append.mp h with h | h
        · exact .inl h
        · rw [List.mem_singleton.mp h]; exact .inr (.head _)
    · exact .inr (.tail _ h)
theorem difs_none {s t : List (List Int)} (h : ∀ x, s.count x = t.count x) (seen : List (List Int)) : difs s t seen = [] := by
  unfold difs
  rw [List.map_eq_nil_iff, List.filter_eq_nil_iff]
  intro x _; simp [h x]

/-! the difference: each of the first list, from its end, is taken out of the second -/
noncomputable def uldOf : List (List Int) → List (List Int) → List (List Int) → List (List Int) × List (List Int)
  | [], missing, actual => (missing, actual)
  | x :: r, missing, actual => if x ∈ actual then uldOf r missing (actual.erase x) else uldOf r (missing ++ [x]) actual
theorem uld_count (w : List Int) : ∀ (r missing actual : List (List Int)),
    (uldOf r missing actual).1.count w = missing.count w + (r.count w - actual.count w) ∧ (uldOf r missing actual).2.count w = actual.count w - r.count w
  | [], missing, actual => by simp [uldOf]
  | x :: r, missing, actual => by
    unfold uldOf
    rw [List.count_cons]
    by_cases h : x ∈ actual
    · rw [if_pos h]
      obtain ⟨i1, i2⟩ := uld_count w r missing (actual.erase x)
      rw [i1, i2, List.count_erase]
      by_cases e : x = w
      · subst e
        have := List.count_pos_iff.mpr h
        simp; lia  
      · have e2 : (x == w) = false := by simpa using e
        have e3 : (w == x) = false := by simpa using fun q => e q.symm
        simp [e2]
    · rw [if_neg h]
      obtain ⟨i1, i2⟩ := uld_count w r (missing ++ [x]) actual
      rw [i1, i2, List.count_append]
      by_cases e : x = w
      · subst e
        have := List.count_eq_zero.mpr h
        simp; lia  
      · have e2 : (x == w) = false := by simpa using e
        simp [e2, e]
/-- each told word, made less shown times -/
noncomputable def lacksOf (f : Dif → Nat) (l : List Dif) : List (List Int) := l.flatMap fun d => List.replicate (f d) d.2.2
theorem lacks_count (w : List Int) (s t : List (List Int)) (f : Nat → Nat → Nat) (hf : ∀ a, f a a = 0) : ∀ seen : List (List Int), seen.Nodup → (lacksOf (fun d => f d.1 d.2.1) (difs s t seen)).count w = if w ∈ seen then f (s.count w) (t.count w) else 0
  | [], _ => rfl
  | x :: seen, h => by
    have h := List.nodup_cons.mp h
    have ih := lacks_count w s t f hf seen h.2
    have e : difs s t (x :: seen) = (if s.count x = t.count x then [] else [(s.count x, t.count x, x)]) ++ difs s t seen := by
      unfold difs
      rw [List.filter_cons]
      by_cases q : s.count x = t.count x
      · simp [q]
      · simp [q]
    rw [e]
    unfold lacksOf at ih ⊢
    rw [List.flatMap_append, List.count_append, ih]
    by_cases q : x = w
    · subst q
      rw [if_neg h.1]
      by_cases z : s.count x = t.count x
      · simp [z, hf]
      · simp [z]
    · have hc : List.count w (List.flatMap (fun d : Dif => List.replicate (f d.1 d.2.1) d.2.2) (if s.count x = t.count x then [] else [(s.count x, t.count x, x)])) = 0 := by
        split
        · rfl
        · simp only [List.flatMap_cons, List.flatMap_nil, List.append_nil]
          rw [List.count_replicate, if_neg (by simpa using q)]
      rw [hc]
      have : (w ∈ x :: seen) ↔ w ∈ seen := by simp [Ne.symm q]
      simp only [this]; lia  
theorem missing_perm (s t : List (List Int)) : (uldOf s.reverse [] t).1.Perm (lacksOf (fun d => d.1 - d.2.1) (difs s t (onceOf (s ++ t)))) := by
  refine List.perm_iff_count.mpr fun w => ?_
  rw [(uld_count w _ _ _).1, lacks_count w s t (fun a b => a - b) (fun a => by lia  ) (onceOf (s ++ t)) (once_nodup _ [] .nil), List.count_reverse]
  by_cases h : w ∈ onceOf (s ++ t)
  · rw [if_pos h]; simp
  · rw [if_neg h]
    have : s.count w = 0 := List.count_eq_zero.mpr fun q => h ((once_sub (s ++ t) []).2 w (List.mem_append_left _ q))
    rw [this]; simp
theorem over_perm (s t : List (List Int)) : (uldOf s.reverse [] t).2.Perm (lacksOf (fun d => d.2.1 - d.1) (difs s t (onceOf (s ++ t)))) := by
  refine List.perm_iff_count.mpr fun w => ?_
  rw [(uld_count w _ _ _).2, lacks_count w s t (fun a b => b - a) (fun a => by lia  ) (onceOf (s ++ t)) (once_nodup _ [] .nil), List.count_reverse]
  by_cases h : w ∈ onceOf (s ++ t)
  · rw [if_pos h]
  · rw [if_neg h]
    have : t.count w = 0 := List.count_eq_zero.mpr fun q => h ((once_sub (s ++ t) []).2 w (List.mem_append_right _ q))
    rw [this]; simp
theorem uld_len : ∀ (r missing actual : List (List Int)), (uldOf r missing actual).1.length ≤ missing.length + r.length ∧ (uldOf r missing actual).2.length ≤ actual.length
  | [], missing, actual => by simp [uldOf]
  | x :: r, missing, actual => by
    unfold uldOf
    by_cases h : x ∈ actual
    · rw [if_pos h]
      obtain ⟨i1, i2⟩ := uld_len r missing (actual.erase x)
      have := List.length_erase_le (a := x) (l := actual)
      simp; lia  
    · rw [if_neg h]
      obtain ⟨i1, i2⟩ := uld_len r (missing ++ [x]) actual
      simp at i1 ⊢; lia  
end Mine
end
section
open PySem PySem.W PyProof.Rows PySem.SeqAt
open AutoSeq1 (wpAny_loadPart')
open MeetsSeq MeetsSeq2 MeetsSeq3 SeqRoads2
set_option maxRecDepth 100000
namespace Mine
/-! list.remove with items whose == depends on the heap -/
theorem remove_loopAt (l : Addr) (items : Array Value) (n : Nat) (x : Value) (e : Value → Bool) (j : Nat) (hj : j < items.size) (hit : e items[j] = true) (k : Nat) (hs1 : items.size ≤ sizeLine) :
    ∀ i : Nat, j - i = k → i ≤ j → (∀ m (hm : m < items.size), i ≤ m → m < j → e items[m] = false) → Meets (Builtin.«list.remove.loop» ⟨[.ref l, x, rawInt i], []⟩)
      (fun A R s => s.heap.get? l = some { cls := .type "list", dict := none, data := .seq items n, slots := #[] } ∧ (∀ y, y ∈ items → EqAt A.in1 s y x (e y)) ∧ R (.ok (.ret .none)) { s with heap := s.heap.update l (Obj.mapSeq fun xs => xs.eraseIdxIfInBounds j) }) := by
  induction k with
  | zero =>
    intro i hk hij hno prog w A R s h
    obtain ⟨hp, g, d, tk, os⟩ := s; obtain ⟨hl, he, h⟩ := h
    have hij' : i = j := by lia  
    subst hij'
    wp_walk using wpAny_loadPart' hl
    have hi : items[((i : Nat) : Int).toNat]? = some items[i] := by simp [hj]
    rw [hi]
    refine wpAny_bind (he _ (Array.getElem_mem hj) prog w _ _ ?_)
    rw [hit]
    have hz' : (items.eraseIdxIfInBounds i).size ≤ sizeLine + 1 := Nat.le_trans (size_erased items _) (Nat.le_succ_of_le hs1)
    wp_walk using (wpAny_updateSeq hl rfl (hz := hs1) (_hz' := hz')), wpAny_loadPart' hl
    simpa using h
  | succ k ih =>
    intro i hk hij hno prog w A R s h
    obtain ⟨hp, g, d, tk, os⟩ := s; obtain ⟨hl, he, h⟩ := h
    have hlt : i < items.size := by lia  
    wp_walk using wpAny_loadPart' hl
    have hi : items[((i : Nat) : Int).toNat]? = some items[i] := by simp [hlt]
    have hc : ((i : Int) + 1) = ((i + 1 : Nat) : Int) := by push_cast; rfl
    rw [hi]
    refine wpAny_bind (he _ (Array.getElem_mem hlt) prog w _ _ ?_)
    rw [hno i hlt (Nat.le_refl _) (by lia  )]
    wp_walk
    rw [hc]
    exact ⟨plainId_quiet plain_remove_loop _, codeAny_builtin entry_remove_loop (by
      rw [Around.under_plainId plain_remove_loop _]
      exact ih (i + 1) (by lia  ) (by lia  ) (fun m hm h1 h2 => hno m hm (by lia  ) h2) prog w A R _ ⟨hl, he, h⟩)⟩
theorem list_removeAt (l : Addr) (items : Array Value) (n : Nat) (x : Value) (e : Value → Bool) (j : Nat) (hj : j < items.size)
    (hit : e items[j] = true) (hno : ∀ m (hm : m < items.size), m < j → e items[m] = false) (hs1 : items.size ≤ sizeLine) :
    Meets (Builtin.«list.remove» ⟨[.ref l, x], []⟩)
      (fun A R s => s.heap.get? l = some { cls := .type "list", dict := none, data := .seq items n, slots := #[] } ∧ (∀ y, y ∈ items → EqAt A.in1 s y x (e y)) ∧ R (.ok (.ret .none)) { s with heap := s.heap.update l (Obj.mapSeq fun xs => xs.eraseIdxIfInBounds j) }) := by
  intro prog w A R s h
  obtain ⟨hp, g, d, tk, os⟩ := s; obtain ⟨hl, he, h⟩ := h
  wp_walk using wpAny_loadPart' hl
  exact ⟨plainId_quiet plain_remove_loop _, codeAny_builtin entry_remove_loop (by
    rw [Around.under_plainId plain_remove_loop _]
    exact remove_loopAt l items n x e j hj hit _ hs1 0 rfl (Nat.zero_le _) (fun m hm _ h2 => hno m hm h2) prog w A R _ ⟨hl, he, h⟩)⟩
theorem remove_loop_noneAt (l : Addr) (items : Array Value) (n : Nat) (x : Value) (e : Value → Bool) (hno : ∀ m (hm : m < items.size), e items[m] = false) (k : Nat) :
    ∀ i : Nat, items.size - i = k → Meets (Builtin.«list.remove.loop» ⟨[.ref l, x, rawInt i], []⟩)
      (fun A R s => s.heap.get? l = some { cls := .type "list", dict := none, data := .seq items n, slots := #[] } ∧ (∀ y, y ∈ items → EqAt A.in1 s y x (e y)) ∧ raisesNew "ValueError" A R s) := by
  induction k with
  | zero =>
    intro i hk prog w A R s h
    obtain ⟨hp, g, d, tk, os⟩ := s; obtain ⟨hl, he, h⟩ := h
    wp_walk using wpAny_loadPart' hl
    have hi : items[((i : Nat) : Int).toNat]? = none := by simp; lia  
    rw [hi]
    wp_walk
    exact_raiseError plainExc_ValueError h.1 h.2
  | succ k ih =>
    intro i hk prog w A R s h
    obtain ⟨hp, g, d, tk, os⟩ := s; obtain ⟨hl, he, h⟩ := h
    have hlt : i < items.size := by lia  
    wp_walk using wpAny_loadPart' hl
    have hi : items[((i : Nat) : Int).toNat]? = some items[i] := by simp [hlt]
    have hc : ((i : Int) + 1) = ((i + 1 : Nat) : Int) := by push_cast; rfl
    rw [hi]
    refine wpAny_bind (he _ (Array.getElem_mem hlt) prog w _ _ ?_)
    rw [hno i hlt]
    wp_walk
    rw [hc]
    exact ⟨plainId_quiet plain_remove_loop _, codeAny_builtin entry_remove_loop (by
      rw [Around.under_plainId plain_remove_loop _]
      exact ih (i + 1) (by lia  ) prog w A R _ ⟨hl, he, h⟩)⟩
theorem list_remove_noneAt (l : Addr) (items : Array Value) (n : Nat) (x : Value) (e : Value → Bool) (hno : ∀ m (hm : m < items.size), e items[m] = false) :
    Meets (Builtin.«list.remove» ⟨[.ref l, x], []⟩)
      (fun A R s => s.heap.get? l = some { cls := .type "list", dict := none, data := .seq items n, slots := #[] } ∧ (∀ y, y ∈ items → EqAt A.in1 s y x (e y)) ∧ raisesNew "ValueError" A R s) := by
  intro prog w A R s h
  obtain ⟨hp, g, d, tk, os⟩ := s; obtain ⟨hl, he, h⟩ := h
  wp_walk using wpAny_loadPart' hl
  exact ⟨plainId_quiet plain_remove_loop _, codeAny_builtin entry_remove_loop (by
    rw [Around.under_plainId plain_remove_loop _]
    exact remove_loop_noneAt l items n x e hno _ 0 rfl prog w A R _ ⟨hl, he, h⟩)⟩

/-! two lists of ints -/
theorem eqAt_ints {A : Around} {s : Shared} {y x : Value} {l k : List Int} (hy : Ints s.heap y l) (hx : Ints s.heap x k) (hu : A.units < cLine) : EqAt A s y x (decide (l = k)) := by
  obtain ⟨a, vs, n, rfl, ea, ia⟩ := hy
  obtain ⟨b, us, m, rfl, eb, ib⟩ := hx
  have h1 := ia.len
  have h2 := ib.len
  by_cases hne : a = b
  · subst hne
    rw [ea] at eb
    injection eb with eb
    have e : vs = us := by
      have := congrArg Obj.data eb
      simp only [Data.seq.injEq] at this
      exact Array.toList_inj.mpr this.1 |> fun q => by simpa using q
    subst e
    have : l = k := by
      have go : ∀ {vs : List Value} {l k : List Int}, All2 IsInt vs l → All2 IsInt vs k → l = k := by
        intro vs
        induction vs with
        | nil => intro l k p q; cases p; cases q; rfl
        | cons v vs ih =>
          intro l k p q
          cases p with
          | cons r1 p =>
            cases q with
            | cons r2 q =>
              obtain ⟨t, rfl⟩ := r1
              obtain ⟨u, e⟩ := r2
              injection e with e1 _
              rw [e1, ih p q]
      exact go ia ib
    rw [decide_eq_true this]
    exact EqAt.same _
  · refine EqAt.of_refs hne ?_
    by_cases hs : vs.length = us.length
    · have r := RcAt.lists (A := A) (e := fun j => decide (l[j]? = k[j]?)) (isList_of ea) (isList_of eb) (by simpa using hs) hu fun j p q => by
        simp only [List.size_toArray] at p q
        obtain ⟨c, g1, t, e1⟩ := ia.get (List.getElem?_eq_getElem p)
        obtain ⟨d, g2, u, e2⟩ := ib.get (List.getElem?_eq_getElem q)
        simp only [List.getElem_toArray]
        rw [e1, e2, g1, g2]
        have e3 : decide (some c = some d) = (c == d) := by
          by_cases z : c = d
          · simp [z]
          · simp [z]
        rw [e3]
        exact EqAt.int_int c t d u
      have e : (List.range vs.toArray.size).all (fun j => decide (l[j]? = k[j]?)) = decide (l = k) := by
        by_cases z : l = k
        · subst z; simp
        · rw [decide_eq_false z]
          refine Bool.eq_false_iff.mpr fun q => z ?_
          rw [List.all_eq_true] at q
          refine List.ext_getElem? fun i => ?_
          by_cases hi : i < vs.length
          · have := q i (by simpa using hi)
            exact of_decide_eq_true this
          · rw [List.getElem?_eq_none (by lia  ), List.getElem?_eq_none (by lia  )]
      rw [e] at r
      exact r
    · have r := RcAt.lists_lengths (A := A) (isList_of ea) (isList_of eb) (by simpa using hs) hu
      have : decide (l = k) = false := decide_eq_false fun z => hs (by rw [h1, h2, z])
      rw [this]; exact r
end Mine
end
section
open PySem PySem.W PyProof.Rows
set_option maxRecDepth 100000
namespace Mine
section
variable {prog : Program} {w : World} {A : Around} {E : Value → Shared → Prop} {s : Shared} {hp : Heap} {gs : Array GenState} {dr : Drawn} {tk : Nat} {os : OsState} {env : Env} {h₀ g₀ g : Heap} {L : Addr} {cs : List (Str × Addr)} {m cm : Str → Option Value} {pre post own : List (Addr × (Obj → Prop))}

noncomputable abbrev kWh2 (J : Nat → Shared → Prop) (i : Nat) (Q : Flow → Shared → Prop) : Flow → Shared → Prop := fun f s => match f with | .next | .cont => ∃ j, j < i ∧ J j s | .brk => Q .next s | .ret v => Q (.ret v) s
noncomputable abbrev kWh (prog : Program) (w : World) (A : Around) (env : Env) (body : List Stmt) (J : Nat → Shared → Prop) (i : Nat) (Q : Flow → Shared → Prop) : Bool → Shared → Prop := fun b s => match b with | true => Wp prog w A (execs body env) (kWh2 J i Q) s | false => Q .next s
theorem kWh_t {body : List Stmt} {J : Nat → Shared → Prop} {i : Nat} {Q : Flow → Shared → Prop} {b : Bool} (hb : b = true) (h : Wp prog w A (execs body env) (kWh2 J i Q) s) : kWh prog w A env body J i Q b s := by subst hb; exact h
/-- while, by a measure -/
theorem sWhile {test : Expr} {body : List Stmt} {pos : Pos} {Q : Flow → Shared → Prop} (n : Nat) (J : Nat → Shared → Prop)
    (turn : ∀ i s, J i s → Wp prog w A (isTrue test env (eval test env)) (kWh prog w A env body J i Q) s)
    (h : J n s) : Wp prog w A (exec (.While test body [] pos) env) Q s := by
  refine ⟨wpAny_While (codeAny_mono (codeAny_whileLoop (R := fun r s' => ∃ f, r = .ok f ∧ Q f s') J (fun i s hJ => ?_) n h) fun r s' hr => ?_)⟩
  · refine wpAny_mono (turn i s hJ).run (fun b s₂ h₂ => ?_) fun _ _ f => f.elim
    cases b with
    | true =>
      rw [if_pos rfl]
      refine wpAny_mono h₂.run (fun f s₃ h₃ => ?_) fun _ _ f => f.elim
      cases f with
      | next => exact h₃
      | cont => exact h₃
      | brk => exact ⟨_, rfl, h₃⟩
      | ret v => exact ⟨_, rfl, h₃⟩
    | false =>
      rw [if_neg (by decide)]
      exact wpAny_execs_nil ⟨_, rfl, h₂⟩
  · obtain ⟨f, rfl, hq⟩ := hr; exact hq

theorem truL {l : Addr} {vs : List Value} {n : Nat} {Q : Bool → Shared → Prop} (hl : hp.get? l = some (lst vs n)) (hz : vs.length ≤ 1000000) (h : ∀ tk', Q (!vs.isEmpty) ⟨hp, gs, dr, tk', os⟩) : Wp prog w A (truthy (.ref l)) Q ⟨hp, gs, dr, tk, os⟩ :=
  ⟨wpAny_truthy_list (s := ⟨hp, gs, dr, tk, os⟩) (isList_of hl) (by simp; lia  ) (by simpa using h _)⟩

/-- o.name() on a list -/
theorem eMeth0 {o : Expr} {apos pos : Pos} {name : Str} {id : String} {Q : Value → Shared → Prop} (slot : Slot "list" name id) (hty : typeOf (.builtin id) = pure (.type "method_descriptor")) (pa : PlainAttrs "list")
    (h : Wp prog w A (eval o env) (fun ov s₁ => PackM (fun D => Wp prog w A (call (.builtin id) [.ref D]) Q s₁) ov s₁) s)
    (hbase : attributeBase o name env (eval o env) = eval o env := by rfl)
    (hfew : ((backTo pos (starEach [] env)).all (fun x => !x.1) && (backToKw pos (keywordEach [] env)).all (fun x => x.1.isSome)
      && decide (([] : List Expr).length + ([] : List Keyword).length + (if ([] : List Keyword).isEmpty then 0 else 1) < 30)) = true := by rfl)
    (hline : (apos.endLine == pos.line) = true := by rfl) :
    Wp prog w A (eval (.Call (.Attribute o name apos) [] [] pos) env) Q s := by
  refine ⟨wpAny_Call_method hbase hfew hline pa slot hty (wpAny_mono h.run (fun ov s₁ h₁ => ?_) fun _ _ e => e)⟩
  obtain ⟨D, vs, n, rfl, e, k⟩ := h₁
  exact ⟨⟨_, e, rfl⟩, fun a ha => ⟨_, by cases ha; exact e, rfl⟩, callWith_method0 k.run⟩

theorem mapSeq_gen (vs : List Value) (n : Nat) (f : Array Value → Array Value) : ∃ k, (lst vs n).mapSeq f = lst (f vs.toArray).toList k := by
  refine ⟨if (f vs.toArray).size == vs.toArray.size then n else n + 1, ?_⟩
  simp [Obj.mapSeq]
theorem own_update {l : Addr} {vs : List Value} (B : Bd h₀ g₀ L cs m cm (pre ++ (l, isLst vs) :: post) g hp) (f : Array Value → Array Value) : Bd h₀ g₀ L cs m cm (pre ++ (l, isLst (f vs.toArray).toList) :: post) g (hp.update l (Obj.mapSeq f)) := by
  obtain ⟨n, ho⟩ := B.atL (a := l) (vs := vs) (List.mem_append_right _ (.head _))
  obtain ⟨k, ek⟩ := mapSeq_gen vs n f
  have hfin : (hp.update l (Obj.mapSeq f)).get? l = some (lst (f vs.toArray).toList k) := by
    rw [Heap.get?_update_self _ ho (by rw [ek]; rfl), ek]
  exact B.setO hfin ⟨k, rfl⟩ (Heap.SameBut.update ..).extBut (Nat.le_of_eq (Heap.size_after_update ..).symm)
/-- l.pop() of an own list -/
theorem pop_own {l : Addr} {vs : List Value} {x : Value} {Q : Value → Shared → Prop} (B : Bd h₀ g₀ L cs m cm (pre ++ (l, isLst (vs ++ [x])) :: post) g hp) (hz : vs.length < sizeLine)
    (h : ∀ h', Bd h₀ g₀ L cs m cm (pre ++ (l, isLst vs) :: post) g h' → Q x ⟨h', gs, dr, tk, os⟩) : Wp prog w A (call (.builtin "list.pop") [.ref l]) Q ⟨hp, gs, dr, tk, os⟩ := by
  obtain ⟨n, ho⟩ := B.atL (a := l) (vs := (vs ++ [x])) (List.mem_append_right _ (.head _))
  have hs : (vs ++ [x]).toArray.size - 1 = vs.length := by simp
  refine ⟨call_meets PySem.F.slot_list_pop ⟨_, ho, rfl⟩ PySem.F.entry_list_pop (PySem.F.args_list_pop_1 _) (MeetsSeq.list_pop_last l (vs ++ [x]).toArray n x (by rw [hs]; simp) (by simp; lia  )) ⟨ho, ?_⟩⟩
  have B' := own_update B fun xs => xs.eraseIdxIfInBounds ((vs ++ [x]).toArray.size - 1)
  have e : ((vs ++ [x]).toArray.eraseIdxIfInBounds ((vs ++ [x]).toArray.size - 1)).toList = vs := by
    rw [hs]; simp [Array.eraseIdxIfInBounds]
    rw [List.eraseIdx_append_of_length_le (Nat.le_refl _)]; simp
  rw [e] at B'
  exact h _ B'
theorem all2_erase {R : Value → List Int → Prop} {vs : List Value} {l : List (List Int)} (h : All2 R vs l) (i : Nat) : All2 R (vs.eraseIdx i) (l.eraseIdx i) := by
  induction h generalizing i with
  | nil => simp; exact .nil
  | cons a r ih =>
    cases i with
    | zero => exact r
    | succ i => exact .cons a (ih i)
theorem first_at {l : List (List Int)} {x : List Int} (h : x ∈ l) : ∃ j, ∃ hj : j < l.length, l[j] = x ∧ (∀ i (hi : i < l.length), i < j → l[i] ≠ x) ∧ l.erase x = l.eraseIdx j := by
  induction l with
  | nil => cases h
  | cons y l ih =>
    by_cases e : y = x
    · refine ⟨0, by simp, e, fun i _ hi => absurd hi (Nat.not_lt_zero _), ?_⟩
      simp [e]
    · have hx : x ∈ l := (List.mem_cons.mp h).elim (fun q => absurd q.symm e) id
      obtain ⟨j, hj, h1, h2, h3⟩ := ih hx
      refine ⟨j + 1, by simp; exact hj, by simpa using h1, fun i hi hij => ?_, ?_⟩
      · cases i with
        | zero => simpa using e
        | succ i => simpa using h2 i (by simpa using hi) (by lia  )
      · rw [List.erase_cons_tail (by simpa using e), h3]; rfl
theorem items_of {vs : List Value} {l : List (List Int)} (h : All2 (Ints g) vs l) {k : Heap} (lk : LE g k) {x : Value} {c : List Int} (hx : Ints k x c) (e : Value → Bool) (he : ∀ i (hi : i < vs.length) (hl : i < l.length), e vs[i] = decide (l[i] = c)) (hu : A.units < cLine) :
    ∀ y, y ∈ vs.toArray → SeqAt.EqAt A ⟨k, gs, dr, tk, os⟩ y x (e y) := fun y hy => by
  obtain ⟨i, hi, rfl⟩ := List.getElem_of_mem (List.mem_toArray.mp hy)
  obtain ⟨hl, r⟩ := (show ∃ hl : i < l.length, Ints g vs[i] l[i] from by
    obtain ⟨y, hy, r⟩ := h.get (List.getElem?_eq_getElem hi)
    obtain ⟨hl, rfl⟩ := List.getElem?_eq_some_iff.mp hy
    exact ⟨hl, r⟩)
  rw [he i hi hl]
  exact eqAt_ints (s := ⟨k, gs, dr, tk, os⟩) (IsL.mono lk r) hx hu
end
end Mine
end
section
open PySem PySem.W PyProof.Rows
set_option maxRecDepth 100000
namespace Mine
theorem ints_fun {g : Heap} {v : Value} {l k : List Int} (hy : Ints g v l) (hx : Ints g v k) : l = k := by
  obtain ⟨a, vs, n, rfl, ea, ia⟩ := hy
  obtain ⟨b, us, m, q, eb, ib⟩ := hx
  injection q with q; subst q
  rw [ea] at eb
  injection eb with eb
  have e : vs = us := by
    have := congrArg Obj.data eb
    simp only [Data.seq.injEq] at this
    exact Array.toList_inj.mpr this.1 |> fun q => by simpa using q
  subst e
  have go : ∀ {vs : List Value} {l k : List Int}, All2 IsInt vs l → All2 IsInt vs k → l = k := by
    intro vs
    induction vs with
    | nil => intro l k p q; cases p; cases q; rfl
    | cons v vs ih =>
      intro l k p q
      cases p with
      | cons r1 p =>
        cases q with
        | cons r2 q =>
          obtain ⟨t, rfl⟩ := r1
          obtain ⟨u, e⟩ := r2
          injection e with e1 _
          rw [e1, ih p q]
  exact go ia ib
open Classical in
noncomputable def eqTo (g : Heap) (c : List Int) (y : Value) : Bool := decide (Ints g y c)
theorem all2_get {R : Value → List Int → Prop} {vs : List Value} {l : List (List Int)} (h : All2 R vs l) {i : Nat} (hi : i < vs.length) : ∃ hl : i < l.length, R vs[i] l[i] := by
  obtain ⟨y, hy, r⟩ := h.get (List.getElem?_eq_getElem hi)
  obtain ⟨hl, rfl⟩ := List.getElem?_eq_some_iff.mp hy
  exact ⟨hl, r⟩
theorem eqTo_at {g : Heap} {vs : List Value} {l : List (List Int)} (h : All2 (Ints g) vs l) (c : List Int) : ∀ i (hi : i < vs.length) (hl : i < l.length), eqTo g c vs[i] = decide (l[i] = c) := fun i hi hl => by
  obtain ⟨_, r⟩ := all2_get h hi
  unfold eqTo
  by_cases e : l[i] = c
  · rw [decide_eq_true e]; exact @decide_eq_true _ (Classical.propDecidable _) (e ▸ r)
  · rw [decide_eq_false e]; exact @decide_eq_false _ (Classical.propDecidable _) fun q => e (ints_fun r q)
section
variable {prog : Program} {w : World} {A : Around} {E : Value → Shared → Prop} {hp : Heap} {gs : Array GenState} {dr : Drawn} {tk : Nat} {os : OsState} {env : Env} {h₀ g₀ g gi : Heap} {L : Addr} {cs : List (Str × Addr)} {m cm : Str → Option Value} {pre post own : List (Addr × (Obj → Prop))}
/-- l.remove(x) of an own list that has it -/
theorem remove_own {l : Addr} {us : List Value} {t : List (List Int)} {x : Value} {c : List Int} {Q : Value → Shared → Prop} (B : Bd h₀ g₀ L cs m cm (pre ++ (l, isLst us) :: post) g hp) (hz : us.length ≤ sizeLine) (hi : LE gi g) (hall : All2 (Ints gi) us t) (hx : Ints gi x c) (hm : c ∈ t) (R : A.units + 64 < cLine)
    (h : ∀ h' us', Bd h₀ g₀ L cs m cm (pre ++ (l, isLst us') :: post) g h' → All2 (Ints gi) us' (t.erase c) → Q .none ⟨h', gs, dr, tk, os⟩) : Wp prog w A (call (.builtin "list.remove") [.ref l, x]) Q ⟨hp, gs, dr, tk, os⟩ := by
  obtain ⟨n, ho⟩ := B.atL (a := l) (vs := us) (List.mem_append_right _ (.head _))
  obtain ⟨j, hj, h1, h2, h3⟩ := first_at hm
  have hl := hall.len
  have key := eqTo_at hall c
  refine ⟨call_meets PySem.F.slot_list_remove ⟨_, ho, rfl⟩ PySem.F.entry_list_remove (PySem.F.args_list_remove_2 _ _) (list_removeAt l us.toArray n x (eqTo gi c) j (by simp; lia  ) ?_ (fun i hi hij => ?_) (by simpa using hz)) ⟨ho, ?_, ?_⟩⟩
  · simp only [List.getElem_toArray]; rw [key j (by lia  ) hj, h1]; simp
  · simp only [List.size_toArray] at hi
    simp only [List.getElem_toArray]; rw [key i hi (by lia  ), decide_eq_false (h2 i (by lia  ) hij)]
  · exact items_of hall (hi.tr B.le) (IsL.mono (hi.tr B.le) hx) _ key (by show A.units + 1 < cLine; lia  )
  · have B' := own_update B fun xs => xs.eraseIdxIfInBounds j
    have e : (us.toArray.eraseIdxIfInBounds j).toList = us.eraseIdx j := by
      rw [Array.eraseIdxIfInBounds, dif_pos (by simp; lia  )]; simp
    rw [e] at B'
    exact h _ _ B' (h3 ▸ all2_erase hall j)
/-- l.remove(x) of a list that has it not -/
theorem remove_raises {l : Addr} {us : List Value} {n : Nat} {t : List (List Int)} {x : Value} {c : List Int} {Q : Value → Shared → Prop} (ho : hp.get? l = some (lst us n)) (hi : LE gi hp) (hall : All2 (Ints gi) us t) (hx : Ints gi x c) (hm : c ∉ t) (R : A.units + 64 < cLine) (hh : A.handled = none)
    (h : ∀ h' tk' e, Heap.NewExc hp h' e "ValueError" → E (.ref e) ⟨h', gs, dr, tk', os⟩) : wpAny (model prog w) A (call (.builtin "list.remove") [.ref l, x]) Q E ⟨hp, gs, dr, tk, os⟩ := by
  have hl := hall.len
  have key := eqTo_at hall c
  refine call_meets (s := ⟨hp, gs, dr, tk, os⟩) PySem.F.slot_list_remove ⟨_, ho, rfl⟩ PySem.F.entry_list_remove (PySem.F.args_list_remove_2 _ _) (list_remove_noneAt l us.toArray n x (eqTo gi c) (fun i hi => ?_)) ⟨ho, ?_, hh, h⟩
  · simp only [List.size_toArray] at hi
    simp only [List.getElem_toArray]; rw [key i hi (by lia  )]
    exact decide_eq_false fun e => hm (e ▸ List.getElem_mem _)
  · exact items_of hall hi (IsL.mono hi hx) _ key (by show A.units + 1 < cLine; lia  )

/-- an exception that has just been raised is noted in the frame -/
theorem note_first {M : Model} {s : Shared} {base : Heap} {outer : List Env} {e : Addr} {oe : Obj} {vs : Array Value} {a0 : Value} {Q : Unit → Shared → Prop}
    (hfr : A.frames = some (env :: outer)) (hl : s.heap.FunFrames base (env :: outer)) (hf : env.frame = some L)
    (he : s.heap.get? e = some oe) (hkb : base.StaysIn s.heap) (hen : base.get? e = none) (hd : oe.data = .fields vs) (h1 : vs[1]? = some .none) (h0 : vs[0]? = some a0)
    (h : ∀ h', Heap.NotedW base (env :: outer) e oe.cls a0 (rawInt L) s.heap h' → Q () { s with heap := h' }) : wpAny M A (noteFrame (.ref e) env) Q E s := by
  unfold noteFrame
  simp only [hf]
  refine wpAny_bind (wpAny_field he hd h1 ?_)
  rw [if_neg (by decide)]
  exact wpAny_entryW hfr hl hf he hkb hen hd (Array.getElem?_eq_some_iff.mp h1).1 h0 h

/-- up to the slots of two frames, all is as it was -/
structure Upto (L LL : Addr) (h h' : Heap) : Prop where
  kp : ∀ b o, b ≠ L → b ≠ LL → h.get? b = some o → h'.get? b = some o
  at1 : ∀ o, h.get? L = some o → ∃ sl, h'.get? L = some { o with slots := sl }
  at2 : ∀ o, h.get? LL = some o → ∃ sl, h'.get? LL = some { o with slots := sl }

theorem caught {K : Frag} {names : List (Str × NameKind)} {LL e : Addr} {oL oLL : Obj} {lenv : Env} {he : Heap} {np hpos : Pos} {b₀ : Stmt} {suite : List Stmt} {Q : Flow → Shared → Prop}
    (V : Ev env names L cs) (hx : names.lookup ("ValueError" : Str) = some .globalImplicit) (hfl : env.frame = some L) (hfr : A.frames = some [env, lenv]) (hf2 : lenv.frame = some LL) (hk2 : lenv.scope.kind ≠ .module)
    (hL : hp.get? L = some oL) (dL : ∀ vs, oL.data ≠ .fields vs) (hLL : hp.get? LL = some oLL) (dLL : ∀ vs, oLL.data ≠ .fields vs)
    (G : Gl K g) (hg : LE g hp) (g1 : g.get? L = none) (g2 : g.get? LL = none) (hev : nsIn K mainGlobals "ValueError" = some none)
    (X : Heap.NewExc hp he e "ValueError")
    (h : ∀ h', Upto L LL hp h' → Wp prog w (A.mark (some (.ref e))) (execs (b₀ :: suite) env) Q ⟨h', gs, dr, tk, os⟩) :
    wpAny (model prog w) A (noteFrame (.ref e) env) (fun _ s₂ => wpAny (model prog w) A (setFlight (.ref e) none) (fun _ s₃ =>
      wpAny (model prog w) A (handleBy (.ref e) env [.ExceptHandler (some (.Name "ValueError" np)) none (b₀ :: suite) hpos]) Q E s₃) E s₂) E ⟨he, gs, dr, tk, os⟩ := by
  obtain ⟨oe, t, ee, ec, ed⟩ := X.there
  obtain ⟨base, hbase⟩ : ∃ base, base = only hp fun b => decide (b ≠ L ∧ b ≠ LL) := ⟨_, rfl⟩
  have bget : ∀ b o, base.get? b = some o → hp.get? b = some o ∧ b ≠ L ∧ b ≠ LL := fun b o q => by
    rw [hbase, only_get] at q
    split at q
    · rename_i z; exact ⟨q, of_decide_eq_true z⟩
    · cases q
  have bof : ∀ b o, b ≠ L → b ≠ LL → hp.get? b = some o → base.get? b = some o := fun b o z1 z2 q => by
    rw [hbase, only_get, if_pos (decide_eq_true ⟨z1, z2⟩)]; exact q
  have bL : base.get? L = none := by
    cases q : base.get? L with
    | none => rfl
    | some o => exact absurd rfl (bget _ _ q).2.1
  have bLL : base.get? LL = none := by
    cases q : base.get? LL with
    | none => rfl
    | some o => exact absurd rfl (bget _ _ q).2.2
  have be : base.get? e = none := by
    cases q : base.get? e with
    | none => rfl
    | some o => have := (bget _ _ q).1; rw [X.new] at this; cases this
  have hk1 : env.scope.kind ≠ .module := by rw [V.kd]; decide
  have stay : base.StaysIn he := fun b o q => X.keeps _ _ (bget _ _ q).1
  have fr : he.FunFrames base [env, lenv] := ⟨hk1, ⟨L, oL, hfl, bL, X.keeps _ _ hL, dL⟩, hk2, ⟨LL, oLL, hf2, bLL, X.keeps _ _ hLL, dLL⟩, trivial⟩
  have gb : LE g base := fun b o q => bof b o (fun z => by rw [z, g1] at q; cases q) (fun z => by rw [z, g2] at q; cases q) (hg _ _ q)
  refine note_first (s := ⟨he, gs, dr, tk, os⟩) (vs := #[t, .none, .none, .none, .bool false, .none]) hfr fr hfl ee stay be ed (by rfl) (by rfl) fun h1 hN => ?_
  obtain ⟨n1, n2, n3, n4⟩ := hN
  refine wpAny_setFlight_noneW (s := ⟨h1, gs, dr, tk, os⟩) n1 n2 n3 fun h2 m1 m2 m3 m4 => ?_
  have T2 : ∃ ob, h2.get? e = some ob ∧ ob.cls = .type "ValueError" := by
    obtain ⟨ob, a, b⟩ := m3.at.there
    exact ⟨ob, a, b.trans ec⟩
  have G2 : Gl K h2 := G.mono (gb.tr m1)
  refine wpAny_handleBy_builtin (X := "ValueError") (T := "ValueError") (b := true) PySem.F.isExc_ValueError PySem.F.notTuple_ValueError (by rw [isSubtype_type]; kernel_rfl) (Wp.any (nameB V G2 hx hev bb_ValueError ⟨rfl, T2, ?_⟩))
  rw [if_pos rfl]
  refine wpAny_setFlight_noneW (s := ⟨h2, gs, dr, tk, os⟩) m1 m2 m3.at fun h3 k1 k2 k3 k4 => ?_
  refine (h h3 ⟨fun b o z1 z2 q => k1 _ _ (bof b o z1 z2 q), fun o q => ?_, fun o q => ?_⟩).any
  · rw [hL] at q; injection q with q; subst q
    obtain ⟨sl, e1⟩ := n4 _ _ (X.keeps _ _ hL) dL
    exact ⟨sl, k4 _ _ (m4 _ _ e1 dL) dL⟩
  · rw [hLL] at q; injection q with q; subst q
    obtain ⟨sl, e1⟩ := n4 _ _ (X.keeps _ _ hLL) dLL
    exact ⟨sl, k4 _ _ (m4 _ _ e1 dLL) dLL⟩
end
end Mine
end
section
open PySem PySem.W PyProof.Rows
set_option maxRecDepth 100000
namespace Mine
section
variable {h₀ g₀ g h h' : Heap} {L : Addr} {cs : List (Str × Addr)} {m cm : Str → Option Value} {own : List (Addr × (Obj → Prop))}
theorem Bd.upto {LL : Addr} {P : Obj → Prop} (B : Bd h₀ g₀ L cs m cm ((LL, P) :: own) g h) (hP : ∀ o sl, P o → P { o with slots := sl }) (U : Upto L LL h h') : Bd h₀ g₀ L cs m cm ((LL, P) :: own) g h' := by
  obtain ⟨⟨oLL, eLL, pLL⟩, a1, a2, a3, a4⟩ := B.has (LL, P) (.head _)
  have nd := List.pairwise_cons.mp B.nd
  have hns : h'.Ns L m := by
    obtain ⟨o, es, ep, ho, hd, r⟩ := B.ns
    obtain ⟨sl, e⟩ := U.at1 o ho
    exact ⟨_, es, ep, e, hd, r⟩
  have hcell : ∀ n c, cs.lookup n = some c → h'.IsCell c (cm n) := fun n c e => by
    obtain ⟨oc, ec, dc⟩ := B.cell n c e
    exact ⟨oc, U.kp _ _ (Nat.ne_of_gt (B.above n c (mem_of_lookup e))) (Ne.symm (a4 n c e)) ec, dc⟩
  refine ⟨hns, hcell, B.apart, B.above, fun b o e => U.kp _ _ ?_ ?_ (B.kp _ _ e), B.sz, Nat.le_trans B.sz (Nat.le_of_lt hns.lt), B.ge, fun b o e => U.kp _ _ ?_ ?_ (B.le _ _ e), B.off, B.offL, B.offC, fun n c e => (hcell n c e).lt, fun p hp => ?_, B.nd⟩
  · exact Nat.ne_of_lt (Nat.lt_of_lt_of_le (Heap.lt_size e) B.sz)
  · exact Nat.ne_of_lt (Nat.lt_of_lt_of_le (Heap.lt_size e) a2)
  · exact fun q => by rw [q, B.offL] at e; cases e
  · exact fun q => by rw [q, a1] at e; cases e
  · rcases List.mem_cons.mp hp with rfl | hp
    · obtain ⟨sl, e⟩ := U.at2 _ eLL
      exact ⟨⟨_, e, hP _ _ pLL⟩, a1, a2, a3, a4⟩
    · obtain ⟨⟨o, e, q⟩, r⟩ := B.has p (.tail _ hp)
      exact ⟨⟨o, U.kp _ _ r.2.2.1 (Ne.symm (nd.1 p hp)) e, q⟩, r⟩
/-- two own objects are changed, and the slots of the frame -/
theorem Bd.called {E F : Addr} {p q p' q' : Obj → Prop} {oE oF : Obj} (B : Bd h₀ g₀ L cs m cm ((E, p) :: (F, q) :: own) g h) (k : ∀ b o, b ≠ E → b ≠ F → b ≠ L → h.get? b = some o → h'.get? b = some o)
    (kL : ∀ o, h.get? L = some o → ∃ sl, h'.get? L = some { o with slots := sl }) (hE : h'.get? E = some oE) (hp' : p' oE) (hF : h'.get? F = some oF) (hq' : q' oF) : Bd h₀ g₀ L cs m cm ((E, p') :: (F, q') :: own) g h' := by
  obtain ⟨⟨o1, e1, p1⟩, a1, a2, a3, a4⟩ := B.has (E, p) (.head _)
  obtain ⟨⟨o2, e2, p2⟩, b1, b2, b3, b4⟩ := B.has (F, q) (.tail _ (.head _))
  have nd := List.pairwise_cons.mp B.nd
  have nd2 := List.pairwise_cons.mp nd.2
  have hns : h'.Ns L m := by
    obtain ⟨o, es, ep, ho, hd, r⟩ := B.ns
    obtain ⟨sl, e⟩ := kL o ho
    exact ⟨_, es, ep, e, hd, r⟩
  have hcell : ∀ n c, cs.lookup n = some c → h'.IsCell c (cm n) := fun n c e => by
    obtain ⟨oc, ec, dc⟩ := B.cell n c e
    exact ⟨oc, k _ _ (Ne.symm (a4 n c e)) (Ne.symm (b4 n c e)) (Nat.ne_of_gt (B.above n c (mem_of_lookup e))) ec, dc⟩
  refine ⟨hns, hcell, B.apart, B.above, fun b o e => k _ _ ?_ ?_ ?_ (B.kp _ _ e), B.sz, Nat.le_trans B.sz (Nat.le_of_lt hns.lt), B.ge, fun b o e => k _ _ ?_ ?_ ?_ (B.le _ _ e), B.off, B.offL, B.offC, fun n c e => (hcell n c e).lt, fun r hr => ?_, ?_⟩
  · exact Nat.ne_of_lt (Nat.lt_of_lt_of_le (Heap.lt_size e) a2)
  · exact Nat.ne_of_lt (Nat.lt_of_lt_of_le (Heap.lt_size e) b2)
  · exact Nat.ne_of_lt (Nat.lt_of_lt_of_le (Heap.lt_size e) B.sz)
  · exact fun z => by rw [z, a1] at e; cases e
  · exact fun z => by rw [z, b1] at e; cases e
  · exact fun z => by rw [z, B.offL] at e; cases e
  · rcases List.mem_cons.mp hr with rfl | hr
    · exact ⟨⟨oE, hE, hp'⟩, a1, a2, a3, a4⟩
    rcases List.mem_cons.mp hr with rfl | hr
    · exact ⟨⟨oF, hF, hq'⟩, b1, b2, b3, b4⟩
    obtain ⟨⟨o, e, z⟩, w⟩ := B.has r (.tail _ (.tail _ hr))
    exact ⟨⟨o, k _ _ (Ne.symm (nd.1 _ (.tail _ hr))) (Ne.symm (nd2.1 _ hr)) w.2.2.1 e, z⟩, w⟩
  · exact List.pairwise_cons.mpr ⟨fun r hr => by
      rcases List.mem_cons.mp hr with rfl | hr
      · exact nd.1 (F, q) (.head _)
      · exact nd.1 r (.tail _ hr), List.pairwise_cons.mpr ⟨nd2.1, nd2.2⟩⟩
end

section
variable {prog : Program} {w : World} {A : Around} {hp : Heap} {gs : Array GenState} {dr : Drawn} {tk : Nat} {os : OsState} {env : Env}
/-- enter, with the frame's address told -/
theorem enterF {K : Frag} {g : Heap} {a : Addr} {fd : FuncData} {oc : Value} {od : Option Addr} {osl : Array (Option Value)} {body : List Stmt} {vals : List Value} {binds : List (Str × Value)} {Q : Value → Shared → Prop} {names : List (Str × NameKind)} {nms : List Str}
    (G : Gl K hp) (hg : LE g hp) (hroom : A.depth < recursionLimit) (ho : K.lookup a = some ⟨oc, od, .func fd, osl⟩) (hcd : codeIn K fd.code fd.qualname = true)
    (hbody : fd.body = .stmts body) (hbind : bindArgs fd ⟨vals, []⟩ = pure binds) (hclo : fd.closure = []) (hnm : fd.scope.names = names) (hbn : binds.map (·.1) = nms) (hnd : nms.Nodup)
    (hkind : ∀ L, ∀ x ∈ binds, names.lookup x.1 = some .local ∨ (names.lookup x.1 = some .cell ∧ ((cellsFrom (L + 1) names []).lookup x.1).isSome = true))
    (hgl : fd.globals = mainGlobals) (hbi : fd.builtins = builtinsNs)
    (h : ∀ env L cs m cm h₁ tk₁, Ev env names L cs → env.frame = some L → cs = cellsFrom (L + 1) names [] → (∀ x ∈ binds, names.lookup x.1 = some .local → m x.1 = some x.2) → (∀ x ∈ binds, names.lookup x.1 = some .cell → cm x.1 = some x.2) → Bd hp g L cs m cm [] g h₁ →
      Wp prog w (A.deeper env) (execs body env) (kOut Q) ⟨h₁, gs, dr, tk₁, os⟩)
    (hco : fd.scope.isCoroutine = false := by rfl) (hgen : fd.scope.isGenerator = false := by rfl) (hk : fd.scope.kind = .function := by rfl) :
    Wp prog w A (call (.ref a) vals) Q ⟨hp, gs, dr, tk, os⟩ := by
  subst hnm hbn
  refine ⟨wpAny_call ?_⟩
  refine codeAny_call_cells hroom (G.X _ _ ho) rfl G.lim (codeRec_of G.X hcd) hbody hbind hclo (hkind _) (fun s₁ x => ?_) hco hgen hk
  obtain ⟨h₁, tk₁, rfl⟩ := x.toInCall.same
  have none_ge : ∀ b, hp.objs.size ≤ b → g.get? b = none := fun b hb => by
    cases e : g.get? b with
    | none => rfl
    | some o => exact absurd (Heap.lt_size (hg _ _ e)) (Nat.not_lt.mpr hb)
  refine wpAny_mono (h (callEnvC fd hp.objs.size a) hp.objs.size _ _ _ h₁ tk₁ ⟨hk, rfl, rfl, rfl, hgl, hbi⟩ rfl rfl (fun y hy hk => bindL_get _ _ hnd y hy hk) (fun y hy hk => bindC_get _ _ hnd y hy hk) ⟨x.toInCall.ns, x.cell, x.apart, x.above, x.toInCall.keep, Nat.le_refl _, Nat.le_of_lt x.toInCall.ns.lt, LE.rfl', hg.tr x.toInCall.keep,
    fun b hb e => e, none_ge _ (Nat.le_refl _), fun n c hm => none_ge _ (Nat.le_of_lt (x.above n c (mem_of_lookup hm))), fun n c hm => (x.cell n c hm).lt, fun p hp => (nomatch hp), List.Pairwise.nil⟩).run (fun f s' hq => ?_) fun _ _ f => f.elim
  cases f <;> exact hq
inductive PackTO (Q : Value → Shared → Prop) (vs : List Value) (s₁ : Shared) : Prop
  | mk (h₁ : Heap) (gs : Array GenState) (dr : Drawn) (tk₁ : Nat) (os : OsState) (es : s₁ = ⟨h₁, gs, dr, tk₁, os⟩) (hsz : vs.length ≤ sizeLine) (k : Q (.ref h₁.objs.size) ⟨h₁.push (tup vs 0), gs, dr, tk₁, os⟩)
/-- a tuple display, as a new object -/
theorem dispTO {elts : List Expr} {x1 : Nat} {pos : Pos} {Q : Value → Shared → Prop} {s : Shared}
    (h : Wp prog w A (spliced (backTo pos (starEach elts env))) (PackTO Q) s) :
    Wp prog w A (eval (.Tuple elts x1 pos) env) Q s := by
  refine ⟨wpAny_Tuple_spliced (wpAny_mono h.run (fun vs s₁ h₁ => ?_) fun _ _ e => e)⟩
  obtain ⟨h₁, gs, dr, tk₁, os, rfl, hsz, k⟩ := h₁
  exact ⟨hsz, k⟩
end
end Mine
end
section
open PySem PySem.W PyProof.Rows
set_option maxRecDepth 100000
namespace Mine
theorem sTryOk {prog : Program} {w : World} {A : Around} {s : Shared} {env : Env} {body : List Stmt} {h₀ : ExceptHandler} {hs : List ExceptHandler} {pos : Pos} {Q : Flow → Shared → Prop} (h : Wp prog w A (execs body env) Q s) : Wp prog w A (exec (.Try body (h₀ :: hs) [] [] pos) env) Q s := by
  refine ⟨wpAny_Try_except (wpAny_mono h.run (fun f s₁ q => ?_) fun _ _ f => f.elim)⟩
  cases f with
  | next => exact wpAny_execs_nil q
  | _ => exact q
noncomputable def nUld : List (Str × NameKind) := [("expected", .local), ("actual", .local), ("missing", .local), ("item", .local), ("ValueError", .globalImplicit)]
inductive JY5 (gs : Array GenState) (dr : Drawn) (os : OsState) (e0 : Heap) (hX : Heap) (gi : Heap) (L : Addr) (cs : List (Str × Addr)) (cm : Str → Option Value) (LL : Addr) (P : Obj → Prop) (M : Addr) (E : Addr) (F : Addr) (s : List (List Int)) (t : List (List Int)) (i : Nat) (z : Shared) : Prop
  | mk (h' : Heap) (tk' : Nat) (m' : Str → Option Value) (ws : List Value) (vs' : List Value) (us' : List Value) (exp : List (List Int)) (act : List (List Int)) (mis : List (List Int))
    (q0 : z = ⟨h', gs, dr, tk', os⟩) (q1 : exp.length = i) (q2 : m' "expected" = some (.ref E)) (q3 : m' "actual" = some (.ref F)) (q4 : m' "missing" = some (.ref M)) (q5 : Bd e0 hX L cs m' cm [(LL, P), (M, isLst ws), (E, isLst vs'), (F, isLst us')] hX h') (q6 : All2 (Ints gi) vs' exp) (q7 : All2 (Ints gi) us' act) (q8 : All2 (Ints gi) ws mis) (q9 : uldOf exp.reverse mis act = uldOf s.reverse [] t) (q10 : exp.length + mis.length ≤ 1000) (q11 : act.length ≤ 1000)

section
variable {w : World} {A : Around} {hp : Heap} {gs : Array GenState} {dr : Drawn} {tk : Nat} {os : OsState}
set_option maxHeartbeats 2000000 in
theorem uld_call {E F LL : Addr} {vs us : List Value} {ne nf : Nat} {s t : List (List Int)} {gi hX : Heap} {lenv : Env} {oLL : Obj} {Q : Value → Shared → Prop}
    (G : Gl (KK w) hX) (hX1 : LE hX hp) (hX2 : ∀ b o, b ≠ E → b ≠ F → b ≠ LL → hp.get? b = some o → hX.get? b = some o) (xE : hX.get? E = none) (xF : hX.get? F = none) (xLL : hX.get? LL = none)
    (hi : LE gi hX) (R : Rm A 3) (hfr : A.frames = some [lenv]) (hf2 : lenv.frame = some LL) (hk2 : lenv.scope.kind ≠ .module)
    (hLL : hp.get? LL = some oLL) (dLL : ∀ vs, oLL.data ≠ .fields vs) (hE : hp.get? E = some (lst vs ne)) (hF : hp.get? F = some (lst us nf)) (n1 : E ≠ F) (n2 : E ≠ LL) (n3 : F ≠ LL) (hs : All2 (Ints gi) vs s) (ht : All2 (Ints gi) us t) (hls : s.length ≤ 1000) (hlt : t.length ≤ 1000)
    (h : ∀ h' tk' T M ws rs nM nE nF, (∀ b o, b ≠ E → b ≠ F → b ≠ LL → hp.get? b = some o → h'.get? b = some o) → (∃ sl, h'.get? LL = some { oLL with slots := sl }) → h'.get? E = some (lst [] nE) → h'.get? F = some (lst rs nF) →
      hp.objs.size ≤ T → h'.get? T = some (tup [.ref M, .ref F] 0) → hp.objs.size ≤ M → M ≠ T → h'.get? M = some (lst ws nM) → All2 (Ints gi) ws (uldOf s.reverse [] t).1 → All2 (Ints gi) rs (uldOf s.reverse [] t).2 → Q (.ref T) ⟨h', gs, dr, tk', os⟩) :
    Wp pg w A (call (.ref 92) [.ref E, .ref F]) Q ⟨hp, gs, dr, tk, os⟩ := by
  refine enterF (K := KK w) (fd := _) (names := nUld) (binds := [("expected", .ref E), ("actual", .ref F)]) (nms := ["expected", "actual"]) (G.mono hX1) hX1 R.room (by rfl) (by rfl) (by rfl) (by rfl) (by rfl) (by rfl) (by rfl) (by decide) ?_ (by rfl) (by rfl) ?_
  · intro L x hx
    rcases List.mem_cons.mp hx with rfl | hx
    · exact .inl (by rfl)
    rcases List.mem_singleton.mp hx with rfl
    exact .inl (by rfl)
  · intro env L cs m cm h₁ tk₁ V hfl hcs hm hcm B
    have R' : Rm (A.deeper env) 2 := R.deeper
    have hfr' : (A.deeper env).frames = some [env, lenv] := Around.frames_deeper hfr
    have hme : m "expected" = some (.ref E) := hm _ (.head _) (by rfl)
    have hma : m "actual" = some (.ref F) := hm _ (.tail _ (.head _)) (by rfl)
    have lt : ∀ b o, hp.get? b = some o → b ≠ L := fun b o e => Nat.ne_of_lt (Nat.lt_of_lt_of_le (Heap.lt_size e) B.sz)
    have ltc : ∀ b o, hp.get? b = some o → ∀ n c, cs.lookup n = some c → b ≠ c := fun b o e n c q => Nat.ne_of_lt (Nat.lt_trans (Nat.lt_of_lt_of_le (Heap.lt_size e) B.sz) (B.above n c (mem_of_lookup q)))
    obtain ⟨e0, he0, hz0⟩ : ∃ e0 : Heap, (∀ b, e0.get? b = none) ∧ e0.objs.size = 0 := ⟨⟨#[], hp.life⟩, fun b => by simp [Heap.get?], rfl⟩
    obtain ⟨P, hP⟩ : ∃ P : Obj → Prop, P = fun o => ∃ sl, o = { oLL with slots := sl } := ⟨_, rfl⟩
    have P0 : P oLL := by rw [hP]; exact ⟨oLL.slots, rfl⟩
    have P1 : ∀ o sl, P o → P { o with slots := sl } := fun o sl q => by rw [hP] at q ⊢; obtain ⟨s1, rfl⟩ := q; exact ⟨sl, rfl⟩
    have B0 : Bd e0 hX L cs m cm [(LL, P), (E, isLst vs), (F, isLst us)] hX h₁ := by
      refine ⟨B.ns, B.cell, B.apart, B.above, fun b o e => ?_, by lia  , by lia  , LE.rfl', B.le, fun _ _ e => e, B.offL, B.offC, B.szC, fun p hp' => ?_, ?_⟩
      · rw [he0] at e; cases e
      · rcases List.mem_cons.mp hp' with rfl | hp'
        · exact ⟨⟨oLL, B.kp _ _ hLL, P0⟩, xLL, by lia  , lt _ _ hLL, ltc _ _ hLL⟩
        rcases List.mem_cons.mp hp' with rfl | hp'
        · exact ⟨⟨_, B.kp _ _ hE, ne, rfl⟩, xE, by lia  , lt _ _ hE, ltc _ _ hE⟩
        rcases List.mem_singleton.mp hp' with rfl
        exact ⟨⟨_, B.kp _ _ hF, nf, rfl⟩, xF, by lia  , lt _ _ hF, ltc _ _ hF⟩
      · refine List.pairwise_cons.mpr ⟨fun p hp' => ?_, List.pairwise_cons.mpr ⟨fun p hp' => ?_, List.pairwise_singleton _ _⟩⟩
        · rcases List.mem_cons.mp hp' with rfl | hp'
          · exact Ne.symm n2
          rcases List.mem_singleton.mp hp' with rfl
          exact Ne.symm n3
        · rcases List.mem_singleton.mp hp' with rfl
          exact n1
    have zL : hp.objs.size ≤ L := B.sz
    have z1 : hp.objs.size ≤ h₁.objs.size := B.szh
    clear B
    refine sCons (sDoc V.quiet fun tk2 => ?_)
    refine sCons (sAssign (dispO (argNil ⟨_, _, _, _, _, rfl, by decide, fun h2 M e1 e2 => ?_⟩)))
    have zM : hp.objs.size ≤ M := by rw [e2]; exact z1
    refine storeL V (B0.mk1 e1 e2) (by rfl) fun h3 tk3 B3 => ?_
    have hfe : ∀ {k : Heap}, LE hX k → nsIn (KK w) mainGlobals "ValueError" = some none := fun _ => by rfl
    have hvl := hs.len
    -- while expected
    refine sCons (sWhile s.length (JY5 gs dr os e0 hX gi L cs cm LL P M E F s t) ?turn
        ⟨_, _, _, [], vs, us, s, t, [], rfl, rfl, upd_of hme, upd_of hma, upd_self, B3.perm (.swap ..), hs, ht, .nil, rfl, by simpa using hls, hlt⟩)
    case turn =>
      rintro i z ⟨h', tk', m', ws, vs', us', exp, act, mis, rfl, hi', Ke, Ka, Km, B', hE', hF', hM', hu, hb1, hb2⟩
      obtain ⟨nE, eE⟩ := B'.atL (a := E) (vs := vs') (by first | exact .head _ | exact .tail _ (.head _) | exact .tail _ (.tail _ (.head _)) | exact .tail _ (.tail _ (.tail _ (.head _))) | exact .tail _ (.tail _ (.tail _ (.tail _ (.head _)))) | exact .tail _ (.tail _ (.tail _ (.tail _ (.tail _ (.head _))))))
      have hvl' := hE'.len
      refine tVal (nameL V B' (by rfl) Ke (truL eE (by lia  ) fun tk4 => ?_))
      by_cases hne : vs' = []
      · subst hne
        cases hE'
        refine sCons (sRet (dispTO (argCons (nameL V B' (by rfl) Km (argCons (nameL V B' (by rfl) Ka (argNil ⟨_, _, _, _, _, rfl, by simp [sizeLine_eq], ?_⟩)))))))
        have hu' : (mis, act) = uldOf s.reverse [] t := hu
        obtain ⟨nM, eM⟩ := B'.atL (a := M) (vs := ws) (by first | exact .head _ | exact .tail _ (.head _) | exact .tail _ (.tail _ (.head _)) | exact .tail _ (.tail _ (.tail _ (.head _))) | exact .tail _ (.tail _ (.tail _ (.tail _ (.head _)))) | exact .tail _ (.tail _ (.tail _ (.tail _ (.tail _ (.head _))))))
        obtain ⟨nF, eF⟩ := B'.atL (a := F) (vs := us') (by first | exact .head _ | exact .tail _ (.head _) | exact .tail _ (.tail _ (.head _)) | exact .tail _ (.tail _ (.tail _ (.head _))) | exact .tail _ (.tail _ (.tail _ (.tail _ (.head _)))) | exact .tail _ (.tail _ (.tail _ (.tail _ (.tail _ (.head _))))))
        obtain ⟨oL, eL, pL⟩ := B'.at (a := LL) (p := P) (by first | exact .head _ | exact .tail _ (.head _) | exact .tail _ (.tail _ (.head _)) | exact .tail _ (.tail _ (.tail _ (.head _))) | exact .tail _ (.tail _ (.tail _ (.tail _ (.head _)))) | exact .tail _ (.tail _ (.tail _ (.tail _ (.tail _ (.head _))))))
        rw [hP] at pL
        obtain ⟨sl, rfl⟩ := pL
        refine h _ _ _ M ws us' nM nE nF (fun b o x1 x2 x3 e => Heap.get?_push_of_some _ (B'.le _ _ (hX2 b o x1 x2 x3 e))) ⟨sl, Heap.get?_push_of_some _ eL⟩ (Heap.get?_push_of_some _ eE) (Heap.get?_push_of_some _ eF)
          (Nat.le_trans zL (Nat.le_of_lt B'.ns.lt)) (Heap.get?_push_size _ rfl) zM (Nat.ne_of_lt (Heap.lt_size eM)) (Heap.get?_push_of_some _ eM) ?_ ?_
        · rw [← hu']; exact hM'
        · rw [← hu']; exact hF'
      · refine kWh_t (by simpa using hne) ?_
        obtain ⟨vx, x, rfl⟩ : ∃ vx x, vs' = vx ++ [x] := ⟨vs'.dropLast, vs'.getLast hne, (List.dropLast_concat_getLast hne).symm⟩
        obtain ⟨ex, c, rfl, hE2, hx⟩ := hE'.snoc_inv
        simp only [List.length_append, List.length_singleton] at hi' hvl' hb1
        -- item = expected.pop()
        refine sCons (sAssign (eMeth0 PySem.F.slot_list_pop PySem.F.type_list_pop PySem.F.plainAttrs_list (nameL V B' (by rfl) Ke ⟨E, _, nE, rfl, eE, ?_⟩)))
        refine pop_own (pre := [(LL, P), (M, isLst ws)]) B' (by rw [sizeLine_eq]; lia  ) fun h5 B5 => ?_
        refine storeL V B5 (by rfl) fun h6 tk6 B6 => ?_
        have hFl := hF'.len
        have hMl := hM'.len
        obtain ⟨nF, eF⟩ := B6.atL (a := F) (vs := us') (by first | exact .head _ | exact .tail _ (.head _) | exact .tail _ (.tail _ (.head _)) | exact .tail _ (.tail _ (.tail _ (.head _))) | exact .tail _ (.tail _ (.tail _ (.tail _ (.head _)))) | exact .tail _ (.tail _ (.tail _ (.tail _ (.tail _ (.head _))))))
        have hu2 : uldOf (c :: ex.reverse) mis act = uldOf s.reverse [] t := by rw [← hu, List.reverse_append]; rfl
        by_cases hin : c ∈ act
        · -- it is there
          refine sCons (sTryOk (sCons (sMeth1 PySem.F.slot_list_remove PySem.F.type_list_remove PySem.F.plainAttrs_list (nameL V B6 (by rfl) (upd_of Ka) ⟨F, us', nF, rfl, eF, nameL V B6 (by rfl) upd_self ?_⟩) V.quiet)))
          refine remove_own (pre := [(LL, P), (M, isLst ws), (E, isLst vx)]) (t := act) (c := c) B6 (by rw [sizeLine_eq]; lia  ) hi hF' hx hin R'.u64 fun h7 us7 B7 hF7 => sNil (sNil ?_)
          have hel := List.length_erase_le (a := c) (l := act)
          refine ⟨ex.length, by lia  , _, _, _, ws, vx, us7, ex, act.erase c, mis, rfl, rfl, upd_of Ke, upd_of Ka, upd_of Km, B7, hE2, hF7, hM', ?_, by lia  , by lia  ⟩
          rw [← hu2]; show _ = if c ∈ act then _ else _; rw [if_pos hin]
        · -- it is not
          obtain ⟨oL, es, ep, eL, dL, _⟩ := B6.ns
          obtain ⟨oQ, eQ, pQ⟩ := B6.at (a := LL) (p := P) (by first | exact .head _ | exact .tail _ (.head _) | exact .tail _ (.tail _ (.head _)) | exact .tail _ (.tail _ (.tail _ (.head _))) | exact .tail _ (.tail _ (.tail _ (.tail _ (.head _)))) | exact .tail _ (.tail _ (.tail _ (.tail _ (.tail _ (.head _))))))
          have dQ : ∀ vs, oQ.data ≠ .fields vs := fun vs q => by rw [hP] at pQ; obtain ⟨sl, rfl⟩ := pQ; exact dLL vs q
          refine sCons ⟨wpAny_Try_except (wpAny_execs_cons (wpAny_Expr_any (wpAny_Call_method (by rfl) (by rfl) (by rfl) PySem.F.plainAttrs_list PySem.F.slot_list_remove PySem.F.type_list_remove (Wp.any (nameL V B6 (by rfl) (upd_of Ka) ⟨⟨_, eF, rfl⟩, fun a ha => ⟨_, by cases ha; exact eF, rfl⟩, ?_⟩))) V.quiet (by rfl)))⟩
          refine callWith_method1 (Calls.spliced_cons (Wp.any (nameL V B6 (by rfl) upd_self (Calls.spliced_nil ?_))))
          refine remove_raises (c := c) eF (hi.tr B6.le) hF' hx hin R'.u64 R'.hh fun h7 tk7 e X => ?_
          refine caught (K := KK w) (LL := LL) (lenv := lenv) V (by rfl) hfl hfr' hf2 hk2 eL (fun vs q => by rw [dL] at q; cases q) eQ dQ G B6.le B6.offL xLL (by rfl) X fun h8 U => ?_
          have B8 := B6.upto P1 U
          obtain ⟨nM, eM⟩ := B8.atL (a := M) (vs := ws) (by first | exact .head _ | exact .tail _ (.head _) | exact .tail _ (.tail _ (.head _)) | exact .tail _ (.tail _ (.tail _ (.head _))) | exact .tail _ (.tail _ (.tail _ (.tail _ (.head _)))) | exact .tail _ (.tail _ (.tail _ (.tail _ (.tail _ (.head _))))))
          refine sCons (sAppend (nameL V B8 (by rfl) (upd_of Km) ⟨M, ws, nM, rfl, eM, nameL V B8 (by rfl) upd_self ?_⟩) V.quiet)
          refine append_own (pre := [(LL, P)]) B8 (by rw [sizeLine_eq]; lia  ) fun h9 B9 => sNil (sNil ?_)
          refine ⟨ex.length, by lia  , _, _, _, _, vx, us', ex, act, mis ++ [c], rfl, rfl, upd_of Ke, upd_of Ka, upd_of Km, B9, hE2, hF', hM'.app (.one hx), ?_, by simp; lia  , hb2⟩
          rw [← hu2]; show _ = if c ∈ act then _ else _; rw [if_neg hin]
end
end Mine
end
section
open PySem PySem.W PyProof.Rows
set_option maxRecDepth 100000
namespace Mine
section
variable {h₀ g₀ g h h' : Heap} {L : Addr} {cs : List (Str × Addr)} {m cm : Str → Option Value} {own : List (Addr × (Obj → Prop))}
open Classical in
/-- the objects from z on become persistent -/
theorem Bd.adopt {z : Nat} (B : Bd h₀ g₀ L cs m cm own g h) (hz : h₀.objs.size ≤ z) (hL : L < z) (hc : ∀ n c, cs.lookup n = some c → c < z) (ho : ∀ p ∈ own, p.1 < z) :
    ∃ g', Bd h₀ g₀ L cs m cm own g' h ∧ LE g g' ∧ ∀ b o, z ≤ b → h.get? b = some o → g'.get? b = some o := by
  have key : ∀ b, b < z → g.get? b = none → (only h fun b => decide ((g.get? b).isSome ∨ z ≤ b)).get? b = none := fun b hb e => by
    rw [only_get, if_neg]; simp [e, Nat.not_le.mpr hb]
  have lg : LE g (only h fun b => decide ((g.get? b).isSome ∨ z ≤ b)) := fun b o e => by
    rw [only_get, if_pos (by simp [e])]; exact B.le _ _ e
  refine ⟨only h fun b => decide ((g.get? b).isSome ∨ z ≤ b), { B with ge := B.ge.tr lg, le := fun b o e => ?_, off := fun b hb e => ?_, offL := key _ hL B.offL, offC := fun n c e => key _ (hc n c e) (B.offC n c e), has := fun p hp => ?_ }, lg, fun b o hb e => ?_⟩
  · rw [only_get] at e; split at e
    · exact e
    · cases e
  · exact key _ (Nat.lt_of_lt_of_le hb hz) (B.off b hb e)
  · obtain ⟨a, b, c⟩ := B.has p hp
    exact ⟨a, key _ (ho p hp) b, c⟩
  · rw [only_get, if_pos (by simp [hb])]; exact e
theorem Bd.lts (B : Bd h₀ g₀ L cs m cm own g h) : L < h.objs.size ∧ (∀ n c, cs.lookup n = some c → c < h.objs.size) ∧ ∀ p ∈ own, p.1 < h.objs.size :=
  ⟨B.ns.lt, B.szC, fun p hp => let ⟨⟨_, e, _⟩, _⟩ := B.has p hp; Heap.lt_size e⟩
end
noncomputable def isTab (ps : List Value) (o : Obj) : Prop := o = tabObj ps.toArray
/-- what makes lambdas possible -/
structure Lam (K : Frag) (g : Heap) : Prop where
  G : Gl K g
  C : CodeHd g 206 204
  bm : ∃ mg bm ob, g.Ns mainGlobals mg ∧ mg "__builtins__" = some (.ref bm) ∧ bm ≠ builtinsNs ∧ g.get? bm = some ob ∧ ob.cls = .type "module" ∧ ob.dict = some builtinsNs ∧ ob.data = .plain
theorem Lam.mono {K : Frag} {g g' : Heap} (x : Lam K g) (l : LE g g') : Lam K g' :=
  ⟨x.G.mono l, x.C.keeps l, let ⟨mg, bm, ob, a, b, c, d, e⟩ := x.bm; ⟨mg, bm, ob, a.keeps l, b, c, l _ _ d, e⟩⟩
section
variable {prog : Program} {w : World} {A : Around} {hp : Heap} {gs : Array GenState} {dr : Drawn} {tk : Nat} {os : OsState} {env : Env} {names : List (Str × NameKind)} {h₀ g₀ g : Heap} {L : Addr} {cs : List (Str × Addr)} {m cm : Str → Option Value} {own : List (Addr × (Obj → Prop))} {K : Frag}
theorem eLam {ps : List Value} {params : Arguments} {body : Expr} {scope : Scope} {pos : Pos} {Q : Value → Shared → Prop} (V : Ev env names L cs) (B : Bd h₀ g₀ L cs m cm ((204, isTab ps) :: own) g hp) (hcode : env.code = .ref 206) (X : Lam K g) (ht : TriplesOk ps) (hnf : codeAmong pos ps = none)
    (hdef : defaultsOf params env = ([], [])) (hcl : closureFor scope env = pure [])
    (h : ∀ f c' pm ctv h' g' tk', LE g g' → Bd h₀ g₀ L cs m cm ((204, isTab (ps ++ [rawInt pos.line, rawInt pos.col, .ref c'])) :: own) g' h' → g'.get? f = some (kla_obj "<lambda>" (env.qual ++ "<lambda>") params body scope [] pm c' ctv) → g'.CodeRec (.ref c') (env.qual ++ "<lambda>") → Q (.ref f) ⟨h', gs, dr, tk', os⟩) :
    Wp prog w A (eval (.Lambda params body scope pos) env) Q ⟨hp, gs, dr, tk, os⟩ := by
  obtain ⟨⟨oP, eP, rfl⟩, nP, zP, lP, cP⟩ := B.has (204, isTab ps) (.head _)
  obtain ⟨mg, bm, ob, b0, b1, b2, b3, b4, b5, b6⟩ := X.bm
  have hgs := b0.keeps B.le
  have hgP : mainGlobals ≠ 204 := fun q => by
    obtain ⟨o, es, ep, e, hd, _⟩ := b0
    rw [q, nP] at e; cases e
  have hbP : bm ≠ 204 := fun q => by rw [q, nP] at b3; cases b3
  have hbG : bm ≠ mainGlobals := fun q => by
    obtain ⟨o, es, ep, e, hd, _⟩ := b0
    rw [q, e] at b3; cases b3; rw [hd] at b6; cases b6
  refine ⟨kla_eval hdef (kla_makeFunction (s := ⟨hp, gs, dr, tk, os⟩) (mg := mg) hcl V.gl hgs hcode (X.C.keeps B.le) eP (by simpa using ht) (by simpa using hnf) hgP ⟨bm, ob, b1, b2, hbG, hbP, B.le _ _ b3, b4, b5, b6⟩ fun c' ctv h' tk hx hge hlt hrec htb => ?_)⟩
  have B1 := B.setO (pre := []) (q := isTab (ps ++ [rawInt pos.line, rawInt pos.col, .ref c'])) htb (by simp [isTab]) hx (Nat.le_trans hge (Nat.le_of_lt hlt))
  obtain ⟨w1, w2, w3⟩ := B.lts
  have B2 := B1.keep (h' := h'.push (kla_obj "<lambda>" (env.qual ++ "<lambda>") params body scope [] ((mg "__name__").getD .none) c' ctv)) fun _ _ e => Heap.get?_push_of_some _ e
  obtain ⟨g', B3, l3, n3⟩ := B2.adopt (z := hp.objs.size) B.szh w1 w2 (fun p hp' => by
    rcases List.mem_cons.mp hp' with rfl | hp'
    · exact w3 (204, isTab ps) (.head _)
    · exact w3 p (.tail _ hp'))
  refine h _ c' _ ctv _ g' _ l3 B3 (n3 _ _ (Nat.le_trans hge (Nat.le_of_lt hlt)) (Heap.get?_push_size _ rfl)) ?_
  obtain ⟨c₂, oc, vs, t, e2, hoc, r⟩ := hrec
  cases e2
  exact ⟨c', oc, vs, t, rfl, n3 _ _ hge (Heap.get?_push_of_some _ hoc), r⟩
/-- a lambda is called -/
theorem enterE {f c' : Addr} {name qual : Str} {params : Arguments} {body : Expr} {scope : Scope} {pm ctv : Value} {vals : List Value} {binds : List (Str × Value)} {Q : Value → Shared → Prop} (G : Gl K hp) (hg : LE g hp) (hroom : A.depth < recursionLimit)
    (ho : g.get? f = some (kla_obj name qual params body scope [] pm c' ctv)) (hcd : g.CodeRec (.ref c') qual) (hbind : bindArgs (kla_fn name qual params body scope [] pm (.ref c') ctv) ⟨vals, []⟩ = pure binds) (hloc : ∀ y ∈ binds, scope.names.lookup y.1 = some .local) (hnm : scope.names = names)
    (hcell : ∀ x ∈ scope.names, x.2 ≠ .cell) (hk : scope.kind = .function) (hco : scope.isCoroutine = false) (hgen : scope.isGenerator = false)
    (h : ∀ env L h₁ tk₁, Ev env names L [] → Bd hp g L [] (fun y => binds.reverse.lookup y) (fun _ => none) [] g h₁ → Wp prog w (A.deeper env) (eval body env) Q ⟨h₁, gs, dr, tk₁, os⟩) : Wp prog w A (call (.ref f) vals) Q ⟨hp, gs, dr, tk, os⟩ := by
  subst hnm
  refine ⟨wpAny_call (kla_callFunE hroom (hg _ _ ho) rfl hco hgen rfl (hcd.keeps hg) ?_)⟩
  rw [hbind]
  have none_ge : ∀ b, hp.objs.size ≤ b → g.get? b = none := fun b hb => by
    cases e : g.get? b with
    | none => rfl
    | some o => exact absurd (Heap.lt_size (hg _ _ e)) (Nat.not_lt.mpr hb)
  refine wpAny_pure (wpAny_newFunctionEnv hcell hloc (fun h₁ hns hsb => ?_) hk)
  have hk₁ : LE hp h₁ := fun b o e => hsb.extBut b o (Nat.ne_of_lt (Heap.lt_size e)) (Heap.get?_push_of_some _ e)
  refine ⟨G.lim.keeps hk₁, ?_⟩
  show codeAny _ _ (.expr body (envX qual scope hp.objs.size f (.ref c') [])) _ _
  refine kla_codeExpr (wpAny_mono (h (envX qual scope hp.objs.size f (.ref c') []) hp.objs.size h₁ _ ⟨hk, rfl, rfl, rfl, rfl, rfl⟩ ⟨hns, (fun n c e => by cases e), .nil, (fun n c e => by cases e), hk₁, Nat.le_refl _, Nat.le_of_lt hns.lt, LE.rfl', hg.tr hk₁, fun _ _ e => e, none_ge _ (Nat.le_refl _), (fun n c e => by cases e), (fun n c e => by cases e), (fun p hp => nomatch hp), List.Pairwise.nil⟩).run (fun v s' q => q) fun _ _ f => f.elim)
end
end Mine
end
section
open PySem PySem.W PyProof.Rows
set_option maxRecDepth 100000
namespace Mine
noncomputable abbrev par1 (x : Str) (p : Pos) : Arguments := { posonlyargs := [], args := [{ arg := x, annotation := none, pos := p }], vararg := none, kwonlyargs := [], kw_defaults := [], kwarg := none, defaults := [] }
noncomputable abbrev sco (names : List (Str × NameKind)) : Scope := { kind := .function, names := names, isGenerator := false, isCoroutine := false }
noncomputable def isZero (i : Int) : Bool := i == 0
noncomputable def isTerm (i : Int) : Bool := decide (i < 256)
noncomputable def nEof : List (Str × NameKind) := [("x", .local), ("ENDMARKER", .globalImplicit)]
section
variable {w : World} {A : Around} {hp : Heap} {gs : Array GenState} {dr : Drawn} {tk : Nat} {os : OsState} {g : Heap}
theorem eof_call {i : Int} {t : Tok} {Q : Value → Shared → Prop} (G : Gl (KK w) hp) (hg : LE g hp) (R : Rm A 0)
    (h : ∀ g' h' tk', Stp g hp g' h' → Q (.bool (isZero i)) ⟨h', gs, dr, tk', os⟩) : Wp pg w A (call (.ref 42) [.int i t]) Q ⟨hp, gs, dr, tk, os⟩ := by
  refine enter (K := KK w) (fd := _) (names := nEof) (binds := [("x", .int i t)]) (nms := ["x"]) G hg R.room (by rfl) (by rfl) (by rfl) (by rfl) (by rfl) (by rfl) (by rfl) (by decide) ?_ (by rfl) (by rfl) ?_
  · intro L x hx
    rcases List.mem_singleton.mp hx with rfl
    exact .inl (by rfl)
  · intro env L cs m cm h₁ tk₁ V hcs hm _ B
    have hmx : m "x" = some (.int i t) := hm _ (.head _) (by rfl)
    obtain ⟨u, hu⟩ : ∃ u, nsIn (KK w) mainGlobals "ENDMARKER" = some (some (.int 0 u)) := ⟨_, rfl⟩
    refine sCons (sRet (eCmp (nameL V B (by rfl) hmx (nameG V (G.mono B.kp) (by rfl) hu (iEq ?_)))))
    exact h _ _ _ B.exit
theorem ter_call {i : Int} {t : Tok} {Q : Value → Shared → Prop} (G : Gl (KK w) hp) (hg : LE g hp) (R : Rm A 0)
    (h : ∀ g' h' tk', Stp g hp g' h' → Q (.bool (isTerm i)) ⟨h', gs, dr, tk', os⟩) : Wp pg w A (call (.ref 28) [.int i t]) Q ⟨hp, gs, dr, tk, os⟩ := by
  refine enter (K := KK w) (fd := _) (names := nIs) (binds := [("x", .int i t)]) (nms := ["x"]) G hg R.room (by rfl) (by rfl) (by rfl) (by rfl) (by rfl) (by rfl) (by rfl) (by decide) ?_ (by rfl) (by rfl) ?_
  · intro L x hx
    rcases List.mem_singleton.mp hx with rfl
    exact .inl (by rfl)
  · intro env L cs m cm h₁ tk₁ V hcs hm _ B
    have hmx : m "x" = some (.int i t) := hm _ (.head _) (by rfl)
    obtain ⟨u, hu⟩ : ∃ u, nsIn (KK w) mainGlobals "NT_OFFSET" = some (some (.int 256 u)) := ⟨_, rfl⟩
    refine sCons (sRet (eCmp (nameL V B (by rfl) hmx (nameG V (G.mono B.kp) (by rfl) hu (iLt ?_)))))
    exact h _ _ _ B.exit

variable {f c' : Addr} {qual : Str} {pm ctv : Value} {p q1 q2 q3 q4 q5 : Pos} {k0 : Nat}
theorem lam_eof (ho : g.get? f = some (kla_obj "<lambda>" qual (par1 "sign" p) (.Call (.Name "ISEOF" q1) [.Name "sign" q2] [] q3) (sco [("sign", .local), ("ISEOF", .globalImplicit)]) [] pm c' ctv)) (hcd : g.CodeRec (.ref c') qual) : BoolFn w 1 g (.ref f) isZero where
  obj := ⟨f, _, _, rfl, ho, rfl⟩
  go := fun A hp gs dr tk os g1 i t Q G l1 l2 R h => by
    refine enterE (names := [("sign", .local), ("ISEOF", .globalImplicit)]) (binds := [("sign", .int i t)]) G l2 R.room (l1 _ _ ho) (hcd.keeps l1) (by rfl) (fun y hy => by rcases List.mem_singleton.mp hy with rfl; rfl) rfl (by decide) rfl rfl rfl fun env L h₁ tk₁ V B => ?_
    refine callDef (K := KK w) (a := 42) (by rfl) (nameG V (G.mono B.kp) (by rfl) (by rfl) ⟨rfl, arg1 (nameL V B (by rfl) (by rfl) ⟨G.mono B.kp, eof_call (G.mono B.kp) B.le (R.deeper.less (Nat.le_refl _)) fun g' h' tk' S => ?_⟩)⟩)
    exact h _ _ _ (B.pure S).exit
theorem lam_ter (ho : g.get? f = some (kla_obj "<lambda>" qual (par1 "sign" p) (.Call (.Name "ISTERMINAL" q1) [.Name "sign" q2] [] q3) (sco [("sign", .local), ("ISTERMINAL", .globalImplicit)]) [] pm c' ctv)) (hcd : g.CodeRec (.ref c') qual) : BoolFn w 1 g (.ref f) isTerm where
  obj := ⟨f, _, _, rfl, ho, rfl⟩
  go := fun A hp gs dr tk os g1 i t Q G l1 l2 R h => by
    refine enterE (names := [("sign", .local), ("ISTERMINAL", .globalImplicit)]) (binds := [("sign", .int i t)]) G l2 R.room (l1 _ _ ho) (hcd.keeps l1) (by rfl) (fun y hy => by rcases List.mem_singleton.mp hy with rfl; rfl) rfl (by decide) rfl rfl rfl fun env L h₁ tk₁ V B => ?_
    refine callDef (K := KK w) (a := 28) (by rfl) (nameG V (G.mono B.kp) (by rfl) (by rfl) ⟨rfl, arg1 (nameL V B (by rfl) (by rfl) ⟨G.mono B.kp, ter_call (G.mono B.kp) B.le (R.deeper.less (Nat.le_refl _)) fun g' h' tk' S => ?_⟩)⟩)
    exact h _ _ _ (B.pure S).exit
theorem lam_zero (ho : g.get? f = some (kla_obj "<lambda>" qual (par1 "sign" p) (.Compare (.Name "sign" q1) [.Eq] [.Constant (.int 0) 0 q2] q3) (sco [("sign", .local)]) [] pm c' ctv)) (hcd : g.CodeRec (.ref c') qual) : BoolFn w 1 g (.ref f) isZero where
  obj := ⟨f, _, _, rfl, ho, rfl⟩
  go := fun A hp gs dr tk os g1 i t Q G l1 l2 R h => by
    refine enterE (names := [("sign", .local)]) (binds := [("sign", .int i t)]) G l2 R.room (l1 _ _ ho) (hcd.keeps l1) (by rfl) (fun y hy => by rcases List.mem_singleton.mp hy with rfl; rfl) rfl (by decide) rfl rfl rfl fun env L h₁ tk₁ V B => ?_
    exact eCmp (nameL V B (by rfl) (by rfl) (cInt fun t2 tk2 => iEq (h _ _ _ B.exit)))
theorem lam_lt (ho : g.get? f = some (kla_obj "<lambda>" qual (par1 "sign" p) (.Compare (.Name "sign" q1) [.Lt] [.Constant (.int 256) 0 q2] q3) (sco [("sign", .local)]) [] pm c' ctv)) (hcd : g.CodeRec (.ref c') qual) : BoolFn w 1 g (.ref f) isTerm where
  obj := ⟨f, _, _, rfl, ho, rfl⟩
  go := fun A hp gs dr tk os g1 i t Q G l1 l2 R h => by
    refine enterE (names := [("sign", .local)]) (binds := [("sign", .int i t)]) G l2 R.room (l1 _ _ ho) (hcd.keeps l1) (by rfl) (fun y hy => by rcases List.mem_singleton.mp hy with rfl; rfl) rfl (by decide) rfl rfl rfl fun env L h₁ tk₁ V B => ?_
    exact eCmp (nameL V B (by rfl) (by rfl) (cInt fun t2 tk2 => iLt (h _ _ _ B.exit)))
theorem lam_id (ho : g.get? f = some (kla_obj "<lambda>" qual (par1 "places" p) (.Name "places" q1) (sco [("places", .local)]) [] pm c' ctv)) (hcd : g.CodeRec (.ref c') qual) : ListFn w 1 g (.ref f) id where
  obj := ⟨f, _, _, rfl, ho, rfl⟩
  go := fun A hp gs dr tk os g1 v l Q G l1 l2 R hv hl h => by
    refine enterE (names := [("places", .local)]) (binds := [("places", v)]) G l2 R.room (l1 _ _ ho) (hcd.keeps l1) (by rfl) (fun y hy => by rcases List.mem_singleton.mp hy with rfl; rfl) rfl (by decide) rfl rfl rfl fun env L h₁ tk₁ V B => ?_
    exact nameL V B (by rfl) (by rfl) (h _ _ _ _ B.exit hv)
theorem lam_first (ho : g.get? f = some (kla_obj "<lambda>" qual (par1 "places" p) (.Subscript (.Name "places" q1) (.Slice none (some (.Constant (.int 1) 0 q2)) none q3) q4) (sco [("places", .local)]) [] pm c' ctv)) (hcd : g.CodeRec (.ref c') qual) :
    ListFn w 1 g (.ref f) fun l => l.take 1 where
  obj := ⟨f, _, _, rfl, ho, rfl⟩
  go := fun A hp gs dr tk os g1 v l Q G l1 l2 R hv hl h => by
    refine enterE (names := [("places", .local)]) (binds := [("places", v)]) G l2 R.room (l1 _ _ ho) (hcd.keeps l1) (by rfl) (fun y hy => by rcases List.mem_singleton.mp hy with rfl; rfl) rfl (by decide) rfl rfl rfl fun env L h₁ tk₁ V B => ?_
    obtain ⟨a, vs, n, rfl, ea, hall⟩ := hv
    have hvl := hall.len
    refine eSlice (nameL V B (by rfl) (by rfl) (pNone (pSome (cInt fun t2 tk2 => pNone ⟨_, _, _, _, _, rfl, ?_⟩))))
    refine slice_tail (g := g1) B.le (isList_of (B.le _ _ ea)) .none (.int 1 t2) .none (by decide) (by simp [sizeLine_eq]; lia  ) fun g3 h3 c3 S3 e3 => ?_
    rw [show (some (1 : Int)) = some ((1 : Nat) : Int) from rfl, pick_upto vs 1] at e3
    exact h _ _ _ _ (B.pure S3).exit ⟨c3, _, _, rfl, e3, hall.take 1⟩
theorem lam_last (ho : g.get? f = some (kla_obj "<lambda>" qual (par1 "places" p) (.Subscript (.Name "places" q1) (.Slice (some (.UnaryOp .USub (.Constant (.int 1) 0 q2) q5)) none none q3) q4) (sco [("places", .local)]) [] pm c' ctv)) (hcd : g.CodeRec (.ref c') qual) :
    ListFn w 1 g (.ref f) fun l => l.drop (l.length - 1) where
  obj := ⟨f, _, _, rfl, ho, rfl⟩
  go := fun A hp gs dr tk os g1 v l Q G l1 l2 R hv hl h => by
    refine enterE (names := [("places", .local)]) (binds := [("places", v)]) G l2 R.room (l1 _ _ ho) (hcd.keeps l1) (by rfl) (fun y hy => by rcases List.mem_singleton.mp hy with rfl; rfl) rfl (by decide) rfl rfl rfl fun env L h₁ tk₁ V B => ?_
    obtain ⟨a, vs, n, rfl, ea, hall⟩ := hv
    have hvl := hall.len
    refine eSlice (nameL V B (by rfl) (by rfl) (pSome (eUn (cInt fun t2 tk2 => iNeg fun t3 tk3 => pNone (pNone ⟨_, _, _, _, _, rfl, ?_⟩)))))
    refine slice_tail (g := g1) B.le (isList_of (B.le _ _ ea)) (.int (-1) t3) .none .none (by decide) (by simp [sizeLine_eq]; lia  ) fun g3 h3 c3 S3 e3 => ?_
    rw [show (some (-1 : Int)) = some (-((1 : Nat) : Int)) from rfl, slicePick_last vs.toArray 1 (Nat.le_refl _)] at e3
    refine h _ _ _ _ (B.pure S3).exit ⟨c3, _, _, rfl, e3, ?_⟩
    rw [← hvl]; simpa using hall.drop (vs.length - 1)
end
end Mine
end
section
open PySem PySem.W PyProof.Rows
open AutoSeq1 (wpAny_loadPart')
open MeetsSeq MeetsSeq2 MeetsSeq3 SeqRoads2
set_option maxRecDepth 100000
namespace Mine
/-! a list of Mismatch against a list of tuples with the same items: they do not differ -/
inductive IsDifT (g : Heap) (v : Value) (d : Dif) : Prop
  | mk (p : Addr) (va vb vc : Value) (n : Nat) (e : v = .ref p) (o : g.get? p = some (tup [va, vb, vc] n)) (q1 : IsNat va d.1) (q2 : IsNat vb d.2.1) (q3 : Ints g vc d.2.2)
theorem IsDifT.mono {g g' : Heap} {v : Value} {d : Dif} (l : LE g g') (h : IsDifT g v d) : IsDifT g' v d :=
  let ⟨p, va, vb, vc, n, e, o, r1, r2, r3⟩ := h; ⟨p, va, vb, vc, n, e, l _ _ o, r1, r2, IsL.mono l r3⟩
section
variable {w : World}
noncomputable def EqW (w : World) (A : Around) (s : Shared) (y x : Value) : Prop := ∀ (E : Value → Shared → Prop) (Q : Bool → Shared → Prop), Q true s → wpAny (model pg w) A (eqBool y x) Q E s
theorem ne_loop (l b : Addr) (vs us : List Value) (n n2 : Nat) (hsz : vs.length = us.length) (k : Nat) :
    ∀ i : Nat, vs.length - i = k → MeetsIn pg w (Builtin.«list.__eq__.loop» ⟨[.ref l, .ref b, rawInt i, rawInt 3], []⟩)
      (fun A R s => s.heap.get? l = some (lst vs n) ∧ s.heap.get? b = some (lst us n2) ∧ (∀ j (h1 : j < vs.length) (h2 : j < us.length), EqW w A.in1 s vs[j] us[j]) ∧ R (.ok (.ret (.bool false))) s) := by
  induction k with
  | zero =>
    intro i hk A R s h
    obtain ⟨hp, g, d, tk, os⟩ := s; obtain ⟨hl, hb, he, h⟩ := h
    wp_walk using wpAny_loadPart' hl, wpAny_loadPart' hb
    have hi1 : vs.toArray[((i : Nat) : Int).toNat]? = none := by simp; lia  
    have hi2 : us.toArray[((i : Nat) : Int).toNat]? = none := by simp; lia  
    rw [hi1, hi2]
    wp_walk using wpAny_loadPart' hl, wpAny_loadPart' hb
    show R (.ok (.ret (.bool (vs.toArray.size != us.toArray.size)))) _
    have : (vs.toArray.size != us.toArray.size) = false := by simp [hsz]
    rw [this]; exact h
  | succ k ih =>
    intro i hk A R s h
    obtain ⟨hp, g, d, tk, os⟩ := s; obtain ⟨hl, hb, he, h⟩ := h
    wp_walk using wpAny_loadPart' hl, wpAny_loadPart' hb
    have hlt : i < vs.length := by lia  
    have hlt2 : i < us.length := by lia  
    have hi1 : vs.toArray[((i : Nat) : Int).toNat]? = some vs[i] := by simp [hlt]
    have hi2 : us.toArray[((i : Nat) : Int).toNat]? = some us[i] := by simp [hlt2]
    have hc : ((i : Int) + 1) = ((i + 1 : Nat) : Int) := by push_cast; rfl
    rw [hi1, hi2]
    refine wpAny_bind (he i hlt hlt2 _ _ ?_)
    wp_walk
    rw [hc]
    exact ⟨plainId_quiet plain_eq_loop _, codeAny_builtin entry_eq_loop (by
      rw [Around.under_plainId plain_eq_loop _]
      exact ih (i + 1) (by lia  ) A R _ ⟨hl, hb, he, h⟩)⟩
theorem list_ne_same (l b : Addr) (vs us : List Value) (n n2 : Nat) (hsz : vs.length = us.length) :
    MeetsIn pg w (Builtin.«list.__ne__» ⟨[.ref l, .ref b], []⟩)
      (fun A R s => s.heap.get? l = some (lst vs n) ∧ s.heap.get? b = some (lst us n2) ∧ (∀ j (h1 : j < vs.length) (h2 : j < us.length), EqW w A.in1 s vs[j] us[j]) ∧ R (.ok (.ret (.bool false))) s) := by
  intro A R s h
  obtain ⟨hp, g, d, tk, os⟩ := s; obtain ⟨hl, hb, he, h⟩ := h
  have f3 := AutoSeq1.sub_list_list
  have hne : ¬ (vs.toArray.size != us.toArray.size) = true := by simp [hsz]
  wp_walk using wpAny_loadPart' hl, wpAny_loadPart' hb
  exact ⟨plainId_quiet plain_eq_loop _, codeAny_builtin entry_eq_loop (by
    rw [Around.under_plainId plain_eq_loop _]
    exact ne_loop l b vs us n n2 hsz _ 0 rfl A R _ ⟨hl, hb, he, h⟩)⟩
variable {A : Around} {hp : Heap} {gs : Array GenState} {dr : Drawn} {tk : Nat} {os : OsState} {Q : Value → Shared → Prop}
theorem mis_is {X : (KK w).In hp} {v u : Value} {d : Dif} (hv : IsDif hp v d) (hu : IsDifT hp u d) (R : A.units + 64 < cLine) : EqW w A ⟨hp, gs, dr, tk, os⟩ v u := fun E Q hq => by
  obtain ⟨x, dx, va, vb, vc, rfl, ex, ra, rb, rc⟩ := hv
  obtain ⟨t, ua, ub, uc, n, rfl, et, sa, sb, sc⟩ := hu
  have hne : x ≠ t := fun e => by subst e; rw [ex] at et; exact absurd (congrArg Obj.cls (Option.some.inj et)) (by simp)
  unfold eqBool
  refine wpAny_holding ?_
  refine wpAny_ite_split (fun hab => absurd (by have := eq_of_beq hab; injection this) hne) (fun _ => ?_)
  obtain ⟨t1, rfl⟩ := ra
  obtain ⟨t2, rfl⟩ := rb
  obtain ⟨t3, rfl⟩ := sa
  obtain ⟨t4, rfl⟩ := sb
  have h1 := SeqAt.EqAt.int_int (A := A.in1) (s := ⟨hp, gs, dr, tk, os⟩) (d.1 : Int) t1 (d.1 : Int) t3
  have h2 := SeqAt.EqAt.int_int (A := A.in1) (s := ⟨hp, gs, dr, tk, os⟩) (d.2.1 : Int) t2 (d.2.1 : Int) t4
  have h3 := eqAt_ints (A := A.in1) (s := ⟨hp, gs, dr, tk, os⟩) rc sc (by show A.units + 1 < cLine; lia  )
  refine wpAny_bind (mis_rc X ex et (by lia  ) h1 h2 h3 (wpAny_truthy_bool ?_))
  simpa using hq
theorem ne_difs {v u : Value} {xs : List Dif} (X : (KK w).In hp) (hv : IsL hp (IsDif hp) v xs) (hu : IsL hp (IsDifT hp) u xs) (R : A.units + 200 < cLine) (h : Q (.bool false) ⟨hp, gs, dr, tk, os⟩) : Wp pg w A (compareOp .NotEq v u) Q ⟨hp, gs, dr, tk, os⟩ := by
  obtain ⟨a, vs, n, rfl, ea, ia⟩ := hv
  obtain ⟨b, us, k, rfl, eb, ib⟩ := hu
  have h1 := ia.len
  have h2 := ib.len
  refine ⟨?_⟩
  show wpAny (model pg w) A (richCompare .NotEq (.ref a) (.ref b)) Q _ _
  refine wpAny_richCompare_same_room (s := ⟨hp, gs, dr, tk, os⟩) ⟨_, ea, rfl⟩ ⟨_, eb, rfl⟩ PySem.F.slot_list_ne (call_meetsIn PySem.F.slot_list_ne ⟨_, ea, rfl⟩ PySem.F.entry_list_ne (PySem.F.args_list_ne_2 _ _) (list_ne_same a b vs us n k (by lia  )) ⟨ea, eb, fun j p q => ?_, ?_⟩) (by lia  )
  · obtain ⟨y, hy, r⟩ := ia.get (List.getElem?_eq_getElem p)
    obtain ⟨z, hz, r2⟩ := ib.get (List.getElem?_eq_getElem q)
    rw [hy] at hz; cases hz
    exact mis_is (X := X) r r2 (by show A.units + 1 + 64 < cLine; lia  )
  · exact ⟨by simp, h⟩
end
end Mine
end
section
open PySem PySem.W PyProof.Rows
set_option maxRecDepth 100000
namespace Mine
/-! the plain side -/
theorem fold_ends (ends : Int → Bool) : ∀ (row : List Int) (st : List (List Int) × List Int), st.1.length + row.countP ends ≤ (row.foldl (sideStep ends) st).1.length
  | [], st => by simp
  | c :: row, st => by
    rw [List.foldl_cons, List.countP_cons]
    refine Nat.le_trans ?_ (fold_ends ends row _)
    unfold sideStep
    by_cases h : ends c = true
    · rw [if_pos h, if_pos h]; simp; lia  
    · rw [if_neg h, if_neg h]
      split <;> simp
theorem sides_four (ns : List Int) : 4 ≤ (sidesRaw isZero (signsOf ns)).length := by
  have h := fold_ends isZero (signsOf ns) ([], [])
  have h2 : 3 ≤ (signsOf ns).countP isZero := by
    unfold signsOf
    rw [List.map_append, List.countP_append]
    have : (padL.map sgn).countP isZero = 3 := by decide
    lia  
  show 4 ≤ (((signsOf ns).foldl (sideStep isZero) ([], [])).1 ++ [_]).length
  rw [List.length_append, List.length_singleton]
  simp at h; lia  
theorem signs_len {ns : List Int} : (signsOf ns).length ≤ 25 := by unfold signsOf; simp [padL]; lia  
noncomputable def gram (ns : List Int) : List (List Int) := sidesOf isZero isTerm (signsOf ns)
theorem gram_len (ns : List Int) : (gram ns).length = 4 := by
  have := sides_four ns
  unfold gram sidesOf
  rw [List.length_append, List.length_map, List.length_take, List.length_take, List.length_drop]; lia  
theorem gram_three (ns : List Int) : ∀ s ∈ gram ns, s.length ≤ 3 := fun s hs => by
  unfold gram sidesOf at hs
  rcases List.mem_append.mp hs with hs | hs
  · exact sides_len3 _ _ _ (List.mem_of_mem_take hs)
  · obtain ⟨y, hy, rfl⟩ := List.mem_map.mp hs
    exact Nat.le_trans (List.length_filter_le ..) (sides_len3 _ _ _ (List.mem_of_mem_drop (List.mem_of_mem_take hy)))
theorem places_filter : ∀ y : List Int, placesN (y.filter isTerm) = []
  | [] => rfl
  | x :: y => by
    rw [List.filter_cons]
    split
    · rename_i h
      rw [places_cons, places_filter y]
      have : nt x = false := by unfold nt; unfold isTerm at h; simp at h ⊢; exact h
      rw [this]; rfl
    · exact places_filter y
theorem gram_plain (ns : List Int) : ∀ s ∈ (gram ns).drop 2, placesN s = [] := fun s hs => by
  have h4 := sides_four ns
  unfold gram sidesOf at hs
  rw [List.drop_append, List.length_take] at hs
  rcases List.mem_append.mp hs with hs | hs
  · rw [List.drop_of_length_le (by rw [List.length_take]; lia  )] at hs; cases hs
  · obtain ⟨y, _, rfl⟩ := List.mem_map.mp (List.mem_of_mem_drop hs)
    exact places_filter y
theorem trees_pos {S : List (List Int)} : ∀ (n : Nat) (row : List Int) (r : Nat) (t : Tr), t ∈ treesR S n row r → t.2.2 ≠ 0
  | 0, _, _, t, h => by cases h
  | n + 1, row, r, t, h => by
    have h : t ∈ (if r = 0 then [] else row.foldl (signStep S (treesR S n) r) [([], 0, 1)]) := h
    split at h
    · cases h
    · have go : ∀ (row : List Int) (found : List Tr), (∀ t ∈ found, t.2.2 ≠ 0) → ∀ t ∈ row.foldl (signStep S (treesR S n) r) found, t.2.2 ≠ 0 := by
        intro row
        induction row with
        | nil => exact fun found h => h
        | cons c row ih =>
          intro found hf
          rw [List.foldl_cons]
          refine ih _ fun t ht => ?_
          unfold signStep at ht
          split at ht
          · obtain ⟨u, hu, rfl⟩ := List.mem_map.mp ht
            exact hf u hu
          · obtain ⟨u, hu, ht⟩ := List.mem_flatMap.mp ht
            obtain ⟨side, _, ht⟩ := List.mem_flatMap.mp ht
            obtain ⟨v, hv, rfl⟩ := List.mem_map.mp ht
            exact Nat.mul_ne_zero (Nat.mul_ne_zero (hf u hu) (trees_pos n side _ v hv)) (show 1 + v.2.1 ≠ 0 by lia  )
      exact go row _ (fun t ht => by rw [List.mem_singleton.mp ht]; decide) t h

section
variable {prog : Program} {w : World} {A : Around} {s : Shared} {hp : Heap} {gs : Array GenState} {dr : Drawn} {tk : Nat} {os : OsState} {env : Env} {h₀ g₀ g : Heap} {L : Addr} {cs : List (Str × Addr)} {m cm : Str → Option Value} {own : List (Addr × (Obj → Prop))}
theorem sumL {l : Addr} {vs : List Value} {ns : List Nat} {n : Nat} {Q : Value → Shared → Prop} (hh : A.handled = none) (B : Bd h₀ g₀ L cs m cm own g hp) (hl : hp.get? l = some (lst vs n)) (hall : All2 IsNat vs ns)
    (h : ∀ h' tk' t, Bd h₀ g₀ L cs m cm own g h' → Q (.int (ns.sum : Nat) t) ⟨h', gs, dr, tk', os⟩) : Wp prog w A (call (.builtin "sum") [.ref l]) Q ⟨hp, gs, dr, tk, os⟩ := by
  have hi := intsAre_of (nats_ints hall)
  obtain ⟨xs, e⟩ := hi.allInts.items
  have hn := hi.numsOf
  have h2 : numsOf vs.toArray.toList = ns.map fun n : Nat => (n : Int) := hn
  rw [e, nums_intItems] at h2
  refine ⟨sum_intListG (s := ⟨hp, gs, dr, tk, os⟩) hh (by rw [← e]; exact isList_of hl) fun h' tk' t' hk => ?_⟩
  have q := h h' tk' t' (B.keep hk)
  have e3 : preSum (numAt xs) xs.size = ((ns.sum : Nat) : Int) := by
    rw [preSum_eq, List.take_of_length_le (by simp), h2]
    clear h2 hn hi hall q e h
    induction ns with
    | nil => rfl
    | cons a ns ih => simp only [List.map_cons, List.sum_cons, ih]; push_cast; rfl
  rw [e3]; exact q
theorem list_addH {a b : Addr} {vs ws : List Value} {na nb : Nat} {Q : Value → Shared → Prop} (hg : LE g hp) (ha : hp.get? a = some (lst vs na)) (hb : hp.get? b = some (lst ws nb)) (hsz : vs.length + ws.length ≤ sizeLine)
    (h : ∀ g' h' c, Stp g hp g' h' → g'.get? c = some (lst (vs ++ ws) 0) → Q (.ref c) ⟨h', gs, dr, tk, os⟩) : Wp prog w A (binaryOp .Add (.ref a) (.ref b)) Q ⟨hp, gs, dr, tk, os⟩ := by
  have e : vs.toArray ++ ws.toArray = (vs ++ ws).toArray := by simp
  refine ⟨concat_meets ⟨_, ha, rfl⟩ ⟨_, hb, rfl⟩ noFill_list_add seq_list_add PySem.F.slot_list_add PySem.F.entry_list_add (PySem.F.args_list_add_2 _ _) (list_addW a b vs.toArray ws.toArray na nb none none #[] #[] (by simpa using hsz)) ⟨ha, hb, ?_⟩⟩
  rw [e]
  obtain ⟨g', S, e⟩ := Stp.push hg (lst (vs ++ ws) 0) rfl
  exact h g' _ _ S e
theorem eAnd2 {a b : Expr} {pos : Pos} {Q : Value → Shared → Prop} (h : Wp prog w A (eval a env) (fun v s₁ => Wp prog w A (truthy v) (fun c s₂ => if c = true then Wp prog w A (eval b env) Q s₂ else Q v s₂) s₁) s) :
    Wp prog w A (eval (.BoolOp .And [a, b] pos) env) Q s := by
  refine ⟨BoolOp_and (wpAny_mono h.run (fun v s₁ h₁ => wpAny_mono h₁.run (fun c s₂ h₂ => ?_) fun _ _ e => e) fun _ _ e => e)⟩
  cases c with
  | true => rw [if_pos rfl] at h₂ ⊢; exact BoolOp_one h₂.run
  | false => rw [if_neg (by decide)] at h₂ ⊢; exact h₂
end
end Mine
end
section
open PySem PySem.W PyProof.Rows
set_option maxRecDepth 100000
namespace Mine
noncomputable def nLaw : List (Str × NameKind) := [("script", .local), ("row", .local), ("sides", .local), ("every", .local), ("first", .local), ("last", .local), ("trees", .local), ("due", .local), ("one", .cell), ("orders", .local), ("shapes", .local), ("lacks", .local), ("over", .local), ("missing", .local), ("unexpected", .local),
  ("_law_signs", .globalImplicit), ("_law_sides", .globalImplicit), ("_law_derived", .globalImplicit), ("_law_trees", .globalImplicit), ("sorted", .globalImplicit), ("_count_diff_all_purpose", .globalImplicit), ("_law_once", .globalImplicit), ("sum", .globalImplicit), ("len", .globalImplicit), ("unorderable_list_difference", .globalImplicit)]
noncomputable def lawStmts (w : World) : List Stmt := match (KK w).lookup 207 with
  | some ⟨_, _, .func fd, _⟩ => (match fd.body with | .stmts b => b | _ => [])
  | _ => []
noncomputable def isTabs (o : Obj) : Prop := ∃ ps, isTab ps o
theorem Bd.named {h₀ g₀ g h : Heap} {L : Addr} {cs : List (Str × Addr)} {m cm : Str → Option Value} {own : List (Addr × (Obj → Prop))} (P : (Str → Option Value) → Prop) (B : Bd h₀ g₀ L cs m cm own g h) (hP : P m) : ∃ m', P m' ∧ Bd h₀ g₀ L cs m' cm own g h := ⟨m, hP, B⟩
/-- what stands fast in the law's frame -/
structure Fix (w : World) (A : Around) (env : Env) (L : Addr) (cs : List (Str × Addr)) (e0 G0 : Heap) : Prop where
  V : Ev env nLaw L cs
  hcs : cs = cellsFrom (L + 1) nLaw []
  hfl : env.frame = some L
  hfr : A.frames = some [env]
  R : Rm A 8
  X : Lam (KK w) G0
  he0 : e0.objs.size = 0
theorem Fix.gl {w : World} {A : Around} {env : Env} {L : Addr} {cs : List (Str × Addr)} {e0 G0 : Heap} (x : Fix w A env L cs e0 G0) {m cm : Str → Option Value} {own : List (Addr × (Obj → Prop))} {g h : Heap} (B : Bd e0 G0 L cs m cm own g h) : Gl (KK w) h := x.X.G.mono (B.ge.tr B.le)
/-- the four names behind the sixth row -/
noncomputable def Names (E F : Addr) (tv : Value) (m : Str → Option Value) : Prop := m "every" = some (.ref E) ∧ m "first" = some (.ref F) ∧ m "trees" = some tv
end Mine
end
section
open PySem PySem.W PyProof.Rows
set_option maxRecDepth 100000
namespace Mine
section
variable {w : World} {A : Around} {hp : Heap} {gs : Array GenState} {dr : Drawn} {tk : Nat} {os : OsState} {env : Env} {e0 G0 g : Heap} {L : Addr} {cs : List (Str × Addr)} {m cm : Str → Option Value}
set_option maxHeartbeats 4000000 in
/-- the two tests before the count -/
theorem law_tests {E F Z : Addr} {tv : Value} {ev fv zv : List Value} {S : List (List Int)} {Q : Flow → Shared → Prop} (T : Fix w A env L cs e0 G0) (B : Bd e0 G0 L cs m cm [(204, isTabs), (Z, isLst zv), (F, isLst fv), (E, isLst ev)] g hp)
    (km : Names E F tv m) (kz : m "last" = some (.ref Z)) (hE : All2 (Ints g) ev (derived S id 4)) (hF : All2 (Ints g) fv (derived S (fun l => l.take 1) 5)) (hZ : All2 (Ints g) zv (derived S (fun l => l.drop (l.length - 1)) 5)) (ht : LT g tv (forest S))
    (h4 : S.length = 4) (h3 : ∀ s ∈ S, s.length ≤ 3) (hpl : ∀ s ∈ S.drop 2, placesN s = [])
    (h : ∀ h' tk' m' g', Bd e0 G0 L cs m' cm [(204, isTabs), (Z, isLst zv), (F, isLst fv), (E, isLst ev)] g' h' → LE g g' → Names E F tv m' → Wp pg w A (execs ((lawStmts w).drop 8) env) Q ⟨h', gs, dr, tk', os⟩) :
    Wp pg w A (execs ((lawStmts w).drop 6) env) Q ⟨hp, gs, dr, tk, os⟩ := by
  obtain ⟨V, hcs, hfl, hfr, R, X, he0⟩ := id T
  obtain ⟨ke, kf, kt⟩ := id km
  have sF := one_small h3 one_first
  have sZ := one_small h3 one_last
  have sT := forest_small h3
  have pF := one_perm h3 one_first
  obtain ⟨fn, eF⟩ := B.atL (a := F) (vs := fv) (by first | exact .head _ | exact .tail _ (.head _) | exact .tail _ (.tail _ (.head _)) | exact .tail _ (.tail _ (.tail _ (.head _))) | exact .tail _ (.tail _ (.tail _ (.tail _ (.head _)))) | exact .tail _ (.tail _ (.tail _ (.tail _ (.tail _ (.head _))))))
  obtain ⟨ta, tvs, tn, rfl, et, hall⟩ := ht
  have htl := hall.len
  -- if sorted(first) != sorted([..])
  refine sCons (sIf (tCmp (callBu (nameB V (T.gl B) (by rfl) (by rfl) bb_sorted ⟨rfl, arg1 (nameL V B (by rfl) kf ?_)⟩))))
  refine sorted_spec B.le ⟨F, fv, fn, rfl, eF, AllInts.mono B.le hF⟩ (by lia  ) R.u74 fun g1 h1 u1 ks1 S1 hu1 p1 s1 => ?_
  have B1 := B.pure S1
  refine callBu (nameB V (T.gl B1) (by rfl) (by rfl) bb_sorted ⟨rfl, arg1 ?_⟩)
  refine comp_eval (cl := []) (closure_of V.cl (by rfl)) (by decide) (by rfl) (by decide) (nameL V B1 (by rfl) kt ?_)
  refine ⟨h1, _, _, _, _, g1, _, fun out gg => All2 (Ints gg) out ((forest S).map fun t : Tr => t.1), rfl, B1.le, Ready.list B1.le (S1.le _ _ et), fun out a b l h => AllInts.mono l h, fun C D I h2 tk2 hI B2 => ?_, fun g3 h3' tk3 D out n3 S3 e3 hout => ?_⟩
  · have V1 := V.comp (C := C) (cl := []) (scope := { kind := .function, names := [(".0", .local), ("word", .local), ("size", .local), ("hooks", .local)], isGenerator := false, isCoroutine := false }) (by rfl)
    have hall1 := AllTr.mono S1.le hall
    refine compL (out₀ := []) (rest := []) (d := 0) (xs := forest S) (by rfl) (.inl (by rfl)) (It.list R.hh (S1.le _ _ et)) LE.rfl' hall.len (IsTr g1) (fun i v hv => hall1.get hv) (fun _ => True) (fun gg v y => Ints gg v y) (fun a b v y l h => IsL.mono l h) (fun t => [t.1]) ?_ trivial (B2.weaken (pre := [(D, isLst [])]) (q := listIt ta 0) ?_) ?_
    · intro i' v x m2 ys g4 h4 tk4 hx hv l _ hys B4
      obtain ⟨a, va, vb, vc, tn', rfl, et', hw, hsz, hhk⟩ := hv
      have hyl := hys.len
      refine (letGo_tup (pre := [(D, isLst ([] ++ ys))]) B4 (assign3 R.hh V1 B4 (l _ _ et') (by rfl) (by rfl) (by rfl) fun h5 tk5 B5 => tests_nil ?_))
      refine emit_one (nameL V1 B5 (by rfl) (upd_of (upd_of upd_self)) ⟨_, _, _, _, rfl, LE.rfl', trivial, B5, IsL.mono l hw⟩) (by show ([] ++ ys).length ≤ _; rw [List.nil_append, hyl, fm_one, List.length_map, List.length_take, sizeLine_eq]; lia  )
    · rintro o rfl; exact ⟨rfl, rfl⟩
    · intro h' tk' m' g' ys l _ B' hy
      exact ⟨_, h', tk', m', ys, [], g', rfl, rfl, B', by rw [fm_one] at hy; exact hy⟩
  have B3 := B1.pure S3
  refine sorted_spec B3.le ⟨D, out, n3, rfl, B3.le _ _ e3, AllInts.mono B3.le hout⟩ (by rw [List.length_map]; lia  ) R.u74 fun g4 h4' u4 ks4 S4 hu4 p4 s4 => ?_
  have B4 := B3.pure S4
  refine neLL (LL.mono (S3.kp.tr S4.kp) hu1) hu4 R.u64 (truB ?_)
  have same : ks1 = ks4 := sorted_same (p1.trans (pF.trans p4.symm)) s1 s4
  refine kIf_f (by simp [same]) ?_
  refine sNil ?_
  -- if _count_diff_all_purpose(last, first) != []
  obtain ⟨zn, eZ⟩ := B4.atL (a := Z) (vs := zv) (by first | exact .head _ | exact .tail _ (.head _) | exact .tail _ (.tail _ (.head _)) | exact .tail _ (.tail _ (.tail _ (.head _))) | exact .tail _ (.tail _ (.tail _ (.tail _ (.head _)))) | exact .tail _ (.tail _ (.tail _ (.tail _ (.tail _ (.head _))))))
  obtain ⟨fn4, eF4⟩ := B4.atL (a := F) (vs := fv) (by first | exact .head _ | exact .tail _ (.head _) | exact .tail _ (.tail _ (.head _)) | exact .tail _ (.tail _ (.tail _ (.head _))) | exact .tail _ (.tail _ (.tail _ (.tail _ (.head _)))) | exact .tail _ (.tail _ (.tail _ (.tail _ (.tail _ (.head _))))))
  have l4 : LE g g4 := (S1.le.tr S3.le).tr S4.le
  refine sCons (sIf (tCmp (callDef (K := KK w) (a := 173) (by rfl) (nameG V (T.gl B4) (by rfl) (by rfl) ⟨rfl, argCons (nameL V B4 (by rfl) kz (argCons (nameL V B4 (by rfl) kf (argNil ⟨T.gl B4, ?_⟩))))⟩))))
  refine cd_call (T.gl B4) B4.le (R.less (by decide)) eZ eF4 (AllInts.mono l4 hZ) (AllInts.mono l4 hF) (by lia  ) (by lia  ) fun g5 h5 tk5 v5 S5 hv5 => ?_
  have B5 := B4.pure S5
  have none5 : cdOf (derived S (fun l => l.drop (l.length - 1)) 5) (derived S (fun l => l.take 1) 5) = [] := by
    rw [cd_spec]
    exact difs_none (fun x => (one_count h3 one_last x).trans (one_count h3 one_first x).symm) _
  rw [none5] at hv5
  refine dispP (argNil ⟨_, _, _, _, _, _, rfl, B5.le, by simp, fun g6 h6 N6 S6 e6 => ?_⟩)
  have B6 := B5.pure S6
  obtain ⟨va, vvs, vn, rfl, ev5, hv0⟩ := hv5
  cases hv0
  refine neLL (ls := []) (ks := []) ⟨va, [], vn, rfl, B6.le _ _ (S6.le _ _ ev5), .nil⟩ ⟨N6, [], 0, rfl, B6.le _ _ e6, .nil⟩ R.u64 (truB ?_)
  refine kIf_f (by simp) ?_
  exact sNil (h h6 _ _ g6 B6 ((l4.tr S5.le).tr S6.le) km)
end
end Mine
end
section
open PySem PySem.W PyProof.Rows
set_option maxRecDepth 100000
namespace Mine
theorem fm_ifmap {α β : Type} (p : α → Bool) (f : α → β) (l : List α) : l.flatMap (fun x => if p x then [f x] else []) = (l.filter p).map f := by
  induction l with
  | nil => rfl
  | cons x l ih => rw [List.flatMap_cons, ih, List.filter_cons]; split <;> simp
theorem fact_at {s : Nat} (h : s < 5) : ([1, 1, 2, 6, 24] : List Nat)[s]? = some (fact s) := by
  have : s = 0 ∨ s = 1 ∨ s = 2 ∨ s = 3 ∨ s = 4 := by lia  
  rcases this with rfl | rfl | rfl | rfl | rfl <;> rfl
theorem fdiv_nat (a b : Nat) : (a : Int).fdiv (b : Int) = ((a / b : Nat) : Int) := by
  rw [Int.fdiv_eq_ediv_of_nonneg _ (Int.natCast_nonneg b), Int.natCast_ediv]
section
variable {w : World} {A : Around} {hp : Heap} {gs : Array GenState} {dr : Drawn} {tk : Nat} {os : OsState} {env : Env} {e0 G0 g : Heap} {L : Addr} {cs : List (Str × Addr)} {m cm : Str → Option Value} {own : List (Addr × (Obj → Prop))}
noncomputable def IsOne (x : List Int) (t : Tr) : Bool := decide (t.1 = x) && decide (t.2.1 < 5)
set_option maxHeartbeats 2000000 in
/-- orders = sum([..]) -/
theorem sum_stmt {q0 q1 q2 q3 q4 q5 q6 q7 q8 q9 r0 r1 r2 r3 r4 r5 r6 r7 r8 r9 s0 s1 s2 s3 s4 s5 s6 : Pos} {tv ov : Value} {F : List Tr} {x : List Int} {Q : Flow → Shared → Prop} (V : Ev env nLaw L cs) (hcs : cs = cellsFrom (L + 1) nLaw []) (R : Rm A 0) (G : Gl (KK w) hp) (B : Bd e0 G0 L cs m cm own g hp)
    (kt : m "trees" = some tv) (ko : cm "one" = some ov) (ht : LT g tv F) (hx : Ints g ov x) (hF : F.length ≤ 32) (hall : ∀ t ∈ F, t.2.1 ≤ 5 ∧ t.2.2 ≤ 6 ^ t.2.1 ∧ t.2.2 ≠ 0)
    (h : ∀ g' h' tk' t, Bd e0 G0 L cs (upd m "orders" (.int (ordersOf F x : Nat) t)) cm own g' h' → LE g g' → Q .next ⟨h', gs, dr, tk', os⟩) :
    Wp pg w A (exec (.Assign [.Name "orders" q0] (.Call (.Name "sum" q1) [.ListComp (.BinOp (.Subscript (.List [.Constant (.int 1) 0 q2, .Constant (.int 1) 0 q3, .Constant (.int 2) 0 q4, .Constant (.int 6) 0 q5, .Constant (.int 24) 0 q6] q7) (.Name "size" q8) q9) .FloorDiv (.Name "hooks" r0) r1)
      [⟨.Tuple [.Name "word" r2, .Name "size" r3, .Name "hooks" r4] 0 r5, .Name "trees" r6, [.BoolOp .And [.Compare (.Name "word" r7) [.Eq] [.Name "one" r8] r9, .Compare (.Name "size" s0) [.Lt] [.Constant (.int 5) 0 s1] s2] s3], 0⟩]
      (sco [(".0", .local), ("word", .local), ("size", .local), ("hooks", .local), ("one", .free)]) s4] [] s5) s6) env) Q ⟨hp, gs, dr, tk, os⟩ := by
  obtain ⟨ta, tvs, tn, rfl, et, hta⟩ := ht
  have htl := hta.len
  refine sAssign (callBu (nameB V G (by rfl) (by rfl) boot_sum ⟨rfl, arg1 ?_⟩))
  subst hcs
  have hone : hp.IsCell (L + 1) (some ov) := ko ▸ B.cell "one" (L + 1) (by rfl)
  refine comp_eval (cl := [("one", L + 1)]) (closure_of V.cl (by rfl)) (by decide) (by rfl) (by decide) (nameL V B (by rfl) kt ?_)
  refine ⟨hp, _, _, _, _, g, _, fun out gg => All2 IsNat out ((F.filter (IsOne x)).map fun t => fact t.2.1 / t.2.2), rfl, B.le, Ready.list B.le et, fun out a b l h => h, fun C D I h2 tk2 hI B2 => ?_, fun g3 h3' tk3 D out n3 S3 e3 hout => ?_⟩
  · have V1 := V.comp (C := C) (cl := [("one", L + 1)]) (scope := { kind := .function, names := [(".0", .local), ("word", .local), ("size", .local), ("hooks", .local), ("one", .free)], isGenerator := false, isCoroutine := false }) (by rfl)
    refine compL (out₀ := []) (rest := []) (d := 0) (xs := F) (by rfl) (.inl (by rfl)) (It.list R.hh et) LE.rfl' hta.len (IsTr g) (fun i v hv => hta.get hv) (fun _ => True) (fun _ v y => IsNat v y) (fun a b v y l h => h) (fun t => if IsOne x t then [fact t.2.1 / t.2.2] else []) ?_ trivial (B2.weaken (pre := [(D, isLst [])]) (q := listIt ta 0) ?_) ?_
    · intro i' v t m2 ys g4 h4 tk4 ht hv l _ hys B4
      obtain ⟨a, va, vb, vc, tn', rfl, et', hw, ⟨zt, rfl⟩, ⟨kt', rfl⟩⟩ := hv
      have hyl := hys.len
      rw [fm_ifmap, List.length_map] at hyl
      have hyb : ys.length ≤ 32 := by
        have h1 := List.length_filter_le (IsOne x) (F.take i')
        have h2 : (F.take i').length ≤ F.length := by rw [List.length_take]; lia  
        lia  
      obtain ⟨b1, b2, b3⟩ := hall t (List.mem_of_getElem? ht)
      refine (letGo_tup (pre := [(D, isLst ([] ++ ys))]) B4 (assign3 R.hh V1 B4 (l _ _ et') (by rfl) (by rfl) (by rfl) fun h5 tk5 B5 => tests_one (tAnd2 (tCmp (nameL V1 B5 (by rfl) (upd_of (upd_of upd_self)) ?_)))))
      refine nameC V1 (by rfl) (by rfl) (hone.keeps B5.kp) (eqI (IsL.mono (l.tr B5.le) hw) (IsL.mono (l.tr B5.le) hx) R.u64 (truB ?_))
      by_cases e1 : t.1 = x
      · rw [if_pos (by simpa using e1)]
        refine tCmp (nameL V1 B5 (by rfl) (upd_of upd_self) (cInt fun t6 tk6 => iLt (truB ?_)))
        by_cases e2 : t.2.1 < 5
        · have e3 : IsOne x t = true := by unfold IsOne; simp [e1, e2]
          rw [e3]
          refine kTest_t (by simp; lia  ) ?_
          rw [if_pos rfl]
          refine emit_one (eBin (eSub (dispP (argCons (cInt fun t7 tk7 => argCons (cInt fun t8 tk8 => argCons (cInt fun t9 tk9 => argCons (cInt fun t10 tk10 => argCons (cInt fun t11 tk11 => argNil ⟨_, _, _, _, _, _, rfl, B5.le, by simp [sizeLine_eq], fun g6 h6 c6 S6 e6 => ?_⟩)))))))))
            (by show ([] ++ ys).length ≤ _; rw [List.nil_append, sizeLine_eq]; lia  )
          have B6 := B5.pure S6
          have hrow : All2 IsNat [Value.int 1 t7, .int 1 t8, .int 2 t9, .int 6 t10, .int 24 t11] [1, 1, 2, 6, 24] := .cons ⟨_, rfl⟩ (.cons ⟨_, rfl⟩ (.cons ⟨_, rfl⟩ (.cons ⟨_, rfl⟩ (.cons ⟨_, rfl⟩ .nil))))
          obtain ⟨fv, hfv, ft, rfl⟩ := hrow.get' (fact_at e2)
          refine nameL V1 B6 (by rfl) (upd_of upd_self) (item_at (isList_of (S6.le' _ _ e6)) (by lia  ) (by lia  ) (by simpa using hfv) ?_)
          refine nameL V1 B6 (by rfl) upd_self (iFlo (by lia  ) ?_ fun t12 tk12 => ?_)
          · have : 6 ^ t.2.1 ≤ 6 ^ 5 := Nat.pow_le_pow_right (by decide) b1
            simp; lia  
          · exact ⟨_, _, _, _, rfl, S6.le, trivial, B6, ⟨t12, by rw [fdiv_nat]⟩⟩
        · have e3 : IsOne x t = false := by unfold IsOne; simp [e2]
          rw [e3]
          refine kTest_f (by simp; lia  ) ?_
          rw [if_neg (by decide)]
          exact turned_nil LE.rfl' trivial B5
      · have e3 : IsOne x t = false := by unfold IsOne; simp [e1]
        rw [e3]
        rw [if_neg (by simpa using e1)]
        refine kTest_f (by decide) ?_
        rw [if_neg (by decide)]
        exact turned_nil LE.rfl' trivial B5
    · rintro o rfl; exact ⟨rfl, rfl⟩
    · intro h' tk' m' g' ys l _ B' hy
      exact ⟨_, h', tk', m', ys, [], g', rfl, rfl, B', by rw [fm_ifmap] at hy; exact hy⟩
  · have B3 := B.pure S3
    refine sumL R.hh B3 (B3.le _ _ e3) hout fun h4 tk4 t4 B4 => ?_
    exact storeL V B4 (by rfl) fun h5 tk5 B5 => h g3 h5 _ t4 B5 S3.le
end
end Mine
end
section
open PySem PySem.W PyProof.Rows
set_option maxRecDepth 100000
namespace Mine
inductive JLF (gs : Array GenState) (dr : Drawn) (os : OsState) (g5 : Heap) (e0 : Heap) (G0 : Heap) (L : Addr) (cs : List (Str × Addr)) (I : Addr) (oa : Addr) (Du : Addr) (Z : Addr) (zv : List Value) (F : Addr) (fv : List Value) (E : Addr) (ev : List Value) (tv : Value) (DE : List (List Int)) (DF : List (List Int)) (i : Nat) (z : Shared) : Prop
  | mk (h' : Heap) (tk' : Nat) (m' : Str → Option Value) (cm' : Str → Option Value) (g' : Heap) (dvs : List Value)
    (q0 : z = ⟨h', gs, dr, tk', os⟩) (q1 : LE g5 g') (q2 : Names E F tv m') (q3 : m' "due" = some (.ref Du)) (q4 : Bd e0 G0 L cs m' cm' [(I, listIt oa i), (Du, isLst dvs), (204, isTabs), (Z, isLst zv), (F, isLst fv), (E, isLst ev)] g' h') (q5 : All2 (IsDifT g') dvs (difs DE DF ((onceOf (DE ++ DF)).take i)))

section
variable {w : World} {A : Around} {hp : Heap} {gs : Array GenState} {dr : Drawn} {tk : Nat} {os : OsState} {env : Env} {e0 G0 g : Heap} {L : Addr} {cs : List (Str × Addr)} {m cm : Str → Option Value} {own : List (Addr × (Obj → Prop))}
set_option maxHeartbeats 2000000 in
/-- shapes = len([..]) -/
theorem len_stmt {q0 q1 q2 r2 r3 r4 r5 r6 r7 r8 r9 s4 s5 s6 : Pos} {tv ov : Value} {F : List Tr} {x : List Int} {Q : Flow → Shared → Prop} (V : Ev env nLaw L cs) (hcs : cs = cellsFrom (L + 1) nLaw []) (R : Rm A 0) (G : Gl (KK w) hp) (B : Bd e0 G0 L cs m cm own g hp)
    (kt : m "trees" = some tv) (ko : cm "one" = some ov) (ht : LT g tv F) (hx : Ints g ov x) (hF : F.length ≤ 32)
    (h : ∀ g' h' tk' t, Bd e0 G0 L cs (upd m "shapes" (.int (shapesOf F x : Nat) t)) cm own g' h' → LE g g' → Q .next ⟨h', gs, dr, tk', os⟩) :
    Wp pg w A (exec (.Assign [.Name "shapes" q0] (.Call (.Name "len" q1) [.ListComp (.Name "size" q2)
      [⟨.Tuple [.Name "word" r2, .Name "size" r3, .Name "hooks" r4] 0 r5, .Name "trees" r6, [.Compare (.Name "word" r7) [.Eq] [.Name "one" r8] r9], 0⟩]
      (sco [(".0", .local), ("word", .local), ("size", .local), ("hooks", .local), ("one", .free)]) s4] [] s5) s6) env) Q ⟨hp, gs, dr, tk, os⟩ := by
  obtain ⟨ta, tvs, tn, rfl, et, hta⟩ := ht
  have htl := hta.len
  refine sAssign (callBu (nameB V G (by rfl) (by rfl) bb_len ⟨rfl, arg1 ?_⟩))
  subst hcs
  have hone : hp.IsCell (L + 1) (some ov) := ko ▸ B.cell "one" (L + 1) (by rfl)
  refine comp_eval (cl := [("one", L + 1)]) (closure_of V.cl (by rfl)) (by decide) (by rfl) (by decide) (nameL V B (by rfl) kt ?_)
  refine ⟨hp, _, _, _, _, g, _, fun out gg => All2 IsNat out ((F.filter fun t : Tr => decide (t.1 = x)).map fun t : Tr => t.2.1), rfl, B.le, Ready.list B.le et, fun out a b l h => h, fun C D I h2 tk2 hI B2 => ?_, fun g3 h3' tk3 D out n3 S3 e3 hout => ?_⟩
  · have V1 := V.comp (C := C) (cl := [("one", L + 1)]) (scope := { kind := .function, names := [(".0", .local), ("word", .local), ("size", .local), ("hooks", .local), ("one", .free)], isGenerator := false, isCoroutine := false }) (by rfl)
    refine compL (out₀ := []) (rest := []) (d := 0) (xs := F) (by rfl) (.inl (by rfl)) (It.list R.hh et) LE.rfl' hta.len (IsTr g) (fun i v hv => hta.get hv) (fun _ => True) (fun _ v y => IsNat v y) (fun a b v y l h => h) (fun t : Tr => if decide (t.1 = x) then [t.2.1] else []) ?_ trivial (B2.weaken (pre := [(D, isLst [])]) (q := listIt ta 0) ?_) ?_
    · intro i' v t m2 ys g4 h4 tk4 ht hv l _ hys B4
      obtain ⟨a, va, vb, vc, tn', rfl, et', hw, ⟨zt, rfl⟩, hk⟩ := hv
      have hyl := hys.len
      rw [fm_ifmap, List.length_map] at hyl
      have hyb : ys.length ≤ 32 := by
        have h1 := List.length_filter_le (fun t : Tr => decide (t.1 = x)) (F.take i')
        have h2 : (F.take i').length ≤ F.length := by rw [List.length_take]; lia  
        lia  
      refine (letGo_tup (pre := [(D, isLst ([] ++ ys))]) B4 (assign3 R.hh V1 B4 (l _ _ et') (by rfl) (by rfl) (by rfl) fun h5 tk5 B5 => tests_one (tCmp (nameL V1 B5 (by rfl) (upd_of (upd_of upd_self)) ?_))))
      refine nameC V1 (by rfl) (by rfl) (hone.keeps B5.kp) (eqI (IsL.mono (l.tr B5.le) hw) (IsL.mono (l.tr B5.le) hx) R.u64 (truB ?_))
      by_cases e1 : t.1 = x
      · refine kTest_t (by simpa using e1) ?_
        rw [if_pos (by simpa using e1)]
        exact emit_one (nameL V1 B5 (by rfl) (upd_of upd_self) ⟨_, _, _, _, rfl, LE.rfl', trivial, B5, ⟨zt, rfl⟩⟩) (by show ([] ++ ys).length ≤ _; rw [List.nil_append, sizeLine_eq]; lia  )
      · refine kTest_f (by simpa using e1) ?_
        rw [if_neg (by simpa using e1)]
        exact turned_nil LE.rfl' trivial B5
    · rintro o rfl; exact ⟨rfl, rfl⟩
    · intro h' tk' m' g' ys l _ B' hy
      exact ⟨_, h', tk', m', ys, [], g', rfl, rfl, B', by rw [fm_ifmap] at hy; exact hy⟩
  · have B3 := B.pure S3
    have hol := hout.len
    rw [List.length_map] at hol
    have hfl := List.length_filter_le (fun t : Tr => decide (t.1 = x)) F
    refine lenL (isList_of (B3.le _ _ e3)) (by simp; lia  ) fun t4 tk4 => ?_
    refine storeL V B3 (by rfl) fun h5 tk5 B5 => h g3 h5 _ t4 ?_ S3.le
    have e : ((out.toArray.size : Nat) : Int) = ((shapesOf F x : Nat) : Int) := by unfold shapesOf; simp; lia  
    rw [← e]; exact B5

theorem once_bound {E F : List (List Int)} : (onceOf (E ++ F)).length ≤ E.length + F.length := by
  have := once_len (E ++ F) []
  simpa [onceOf] using this
theorem difs_len (E F seen : List (List Int)) : (difs E F seen).length ≤ seen.length := by unfold difs; rw [List.length_map]; exact List.length_filter_le ..
set_option maxHeartbeats 4000000 in
/-- due = []; for one in ..: .. -/
theorem law_due {E F Z : Addr} {tv : Value} {ev fv zv : List Value} {S : List (List Int)} {Q : Flow → Shared → Prop} (T : Fix w A env L cs e0 G0) (B : Bd e0 G0 L cs m cm [(204, isTabs), (Z, isLst zv), (F, isLst fv), (E, isLst ev)] g hp)
    (km : Names E F tv m) (hE : All2 (Ints g) ev (derived S id 4)) (hF : All2 (Ints g) fv (derived S (fun l => l.take 1) 5)) (ht : LT g tv (forest S))
    (h4 : S.length = 4) (h3 : ∀ s ∈ S, s.length ≤ 3) (hpl : ∀ s ∈ S.drop 2, placesN s = [])
    (h : ∀ h' tk' m' cm' g' dv, Bd e0 G0 L cs m' cm' [(204, isTabs), (Z, isLst zv), (F, isLst fv), (E, isLst ev)] g' h' → LE g g' → Names E F tv m' → m' "due" = some dv →
      IsL g' (IsDifT g') dv (difs (derived S id 4) (derived S (fun l => l.take 1) 5) (onceOf (derived S id 4 ++ derived S (fun l => l.take 1) 5))) → Wp pg w A (execs ((lawStmts w).drop 10) env) Q ⟨h', gs, dr, tk', os⟩) :
    Wp pg w A (execs ((lawStmts w).drop 8) env) Q ⟨hp, gs, dr, tk, os⟩ := by
  obtain ⟨V, hcs, hfl, hfr, R, X, he0⟩ := id T
  have sE := any_small h4 h3 hpl
  have sF := one_small h3 one_first
  have sT := forest_small h3
  have hok : ∀ t ∈ forest S, t.2.1 ≤ 5 ∧ t.2.2 ≤ 6 ^ t.2.1 ∧ t.2.2 ≠ 0 := fun t ht => by
    obtain ⟨a, b, c⟩ := ((trees_ok h3 6 [256] 6 (Nat.le_refl _) (Nat.le_refl _)).2 (by decide)).each t ht
    exact ⟨a, c, trees_pos _ _ _ _ ht⟩
  have oE := any_count (S := S) h3
  have oF := shapes_count (S := S) h3
  generalize hDE : derived S id 4 = DE at *
  generalize hDF : derived S (fun l => l.take 1) 5 = DF at *
  -- due = []
  refine sCons (sAssign (dispO (argNil ⟨_, _, _, _, _, rfl, by decide, fun h1 Du e1 e2 => ?_⟩)))
  refine storeL V (B.mk1 e1 e2) (by rfl) fun h2 tk2 B2 => ?_
  obtain ⟨m2, B2, km2, kd2⟩ : ∃ m2 : Str → Option Value, Bd e0 G0 L cs m2 cm [(Du, isLst []), (204, isTabs), (Z, isLst zv), (F, isLst fv), (E, isLst ev)] g h2 ∧ Names E F tv m2 ∧ m2 "due" = some (.ref Du) :=
    ⟨_, B2, ⟨upd_of km.1, upd_of km.2.1, upd_of km.2.2⟩, upd_self⟩
  -- for one in _law_once(every + first)
  obtain ⟨en2, eE2⟩ := B2.atL (a := E) (vs := ev) (by first | exact .head _ | exact .tail _ (.head _) | exact .tail _ (.tail _ (.head _)) | exact .tail _ (.tail _ (.tail _ (.head _))) | exact .tail _ (.tail _ (.tail _ (.tail _ (.head _)))) | exact .tail _ (.tail _ (.tail _ (.tail _ (.tail _ (.head _))))))
  obtain ⟨fn2, eF2⟩ := B2.atL (a := F) (vs := fv) (by first | exact .head _ | exact .tail _ (.head _) | exact .tail _ (.tail _ (.head _)) | exact .tail _ (.tail _ (.tail _ (.head _))) | exact .tail _ (.tail _ (.tail _ (.tail _ (.head _)))) | exact .tail _ (.tail _ (.tail _ (.tail _ (.tail _ (.head _))))))
  have lE := hE.len
  have lF := hF.len
  refine sCons (sFor (callDef (K := KK w) (a := 202) (by rfl) (nameG V (T.gl B2) (by rfl) (by rfl) ⟨rfl, arg1 (eBin (nameL V B2 (by rfl) km2.1 (nameL V B2 (by rfl) km2.2.1 (list_addH B2.le eE2 eF2 (by rw [sizeLine_eq]; lia  ) fun g3 h3' c3 S3 e3 => ?_))))⟩)))
  have B3 := B2.pure S3
  refine ⟨T.gl B3, once_spec (row := DE ++ DF) (T.gl B3) B3.le (R.less (by decide)) ⟨c3, _, _, rfl, e3, (AllInts.mono S3.le hE).app (AllInts.mono S3.le hF)⟩ (by rw [List.length_append]; lia  ) fun g5 h5 tk5 v5 S5 hv5 => ?_⟩
  have B5 := B3.pure S5
  obtain ⟨oa, ovs, on, rfl, eo, hon⟩ := hv5
  refine iterL B5 eo fun h6 I B6 => ?_
  have hol := hon.len
  have hob := once_bound (E := DE) (F := DF)
  have l5 : LE g g5 := S3.le.tr S5.le
  have W : It pg w A g5 I ovs.length (fun i v => ovs[i]? = some v) (listIt oa) := It.list R.hh eo
  refine for_loop ovs.length (JLF gs dr os g5 e0 G0 L cs I oa Du Z zv F fv E ev tv DE DF) ?turn ?last
      ⟨_, _, _, _, g5, [], rfl, LE.rfl', km2, kd2, B6, .nil⟩
  case last =>
    rintro z ⟨h', tk', m', cm', g', dvs, rfl, hle, kn, kd, B', hD⟩
    refine lastI (pre := []) W hle B' fun h7 tk7 B7 => ⟨rfl, _, rfl, ?_⟩
    obtain ⟨g8, o, B8, l8, e8, ⟨n8, rfl⟩, _⟩ := B7.freeze (pre := [])
    rw [hol, List.take_length] at hD
    exact h h7 _ _ _ g8 (.ref Du) B8 ((l5.tr hle).tr l8) kn kd ⟨Du, dvs, n8, rfl, e8, hD.imp fun _ _ => IsDifT.mono l8⟩
  case turn =>
    rintro i z hi ⟨h', tk', m', cm', g', dvs, rfl, hle, kn, kd, B', hD⟩
    refine stepI (pre := []) W hle B' hi fun v h7 tk7 hv7 B7 => ⟨v, rfl, ?_⟩
    obtain ⟨x, hx, hxi⟩ := hon.get hv7
    have hDl := hD.len
    have hDb := difs_len DE DF ((onceOf (DE ++ DF)).take i)
    rw [List.length_take] at hDb
    have hnext : difs DE DF ((onceOf (DE ++ DF)).take (i + 1)) = if DE.count x = DF.count x then difs DE DF ((onceOf (DE ++ DF)).take i) else difs DE DF ((onceOf (DE ++ DF)).take i) ++ [(DE.count x, DF.count x, x)] := by
      rw [List.take_add_one, hx]; exact difs_snoc ..
    refine letGo_name (assignC V B7 (by subst hcs; rfl) (c := L + 1) (by subst hcs; rfl) fun h8 B8 => ?_)
    have hxg : Ints g' v x := IsL.mono hle hxi
    refine sCons (sum_stmt (F := forest S) (x := x) V hcs (R.less (Nat.zero_le _)) (T.gl B8) B8 kn.2.2 upd_self (LT.mono (l5.tr hle) ht) hxg sT hok fun g9 h9 tk9 t9 B9 l9 => ?_)
    refine sCons (len_stmt (F := forest S) (x := x) V hcs (R.less (Nat.zero_le _)) (T.gl B9) B9 (upd_of kn.2.2) upd_self (LT.mono ((l5.tr hle).tr l9) ht) (IsL.mono l9 hxg) sT fun g10 h10 tk10 t10 B10 l10 => ?_)
    have eo1 : ordersOf (forest S) x = DE.count x := (oE x).symm
    have eo2 : shapesOf (forest S) x = DF.count x := (oF x).symm
    rw [eo1, eo2] at B10
    have lx : LE g' g10 := l9.tr l10
    refine sCons (sIf (tCmp (nameL V B10 (by rfl) (upd_of upd_self) (nameL V B10 (by rfl) upd_self (iNe (truB ?_))))))
    by_cases e : DE.count x = DF.count x
    · refine kIf_f (by simp [e]) ?_
      refine sNil (sNil ⟨_, _, _, _, g10, dvs, rfl, hle.tr lx, ⟨upd_of (upd_of kn.1), upd_of (upd_of kn.2.1), upd_of (upd_of kn.2.2)⟩, upd_of (upd_of kd), B10, ?_⟩)
      rw [hnext, if_pos e]
      exact hD.imp fun _ _ => IsDifT.mono lx
    · refine kIf_t (by simp; lia  ) ?_
      obtain ⟨nD, eD⟩ := B10.atL (a := Du) (vs := dvs) (by first | exact .head _ | exact .tail _ (.head _) | exact .tail _ (.tail _ (.head _)) | exact .tail _ (.tail _ (.tail _ (.head _))) | exact .tail _ (.tail _ (.tail _ (.tail _ (.head _)))) | exact .tail _ (.tail _ (.tail _ (.tail _ (.tail _ (.head _))))))
      refine sCons (sAppend (nameL V B10 (by rfl) (upd_of (upd_of kd)) ⟨Du, dvs, nD, rfl, eD, dispT (argCons (nameL V B10 (by rfl) (upd_of upd_self) (argCons (nameL V B10 (by rfl) upd_self (argCons (nameCB V B10 (by rfl) (c := L + 1) (by subst hcs; rfl) upd_self ?_))))))⟩) V.quiet)
      refine argNil ⟨_, _, _, _, _, _, rfl, B10.le, by simp [sizeLine_eq], fun g11 h11 c11 S11 e11 => ?_⟩
      have B11 := B10.pure S11
      refine append_own (pre := [(I, listIt oa (i + 1))]) B11 (by rw [sizeLine_eq]; lia  ) fun h12 B12 => sNil (sNil ?_)
      refine ⟨_, _, _, _, g11, _, rfl, (hle.tr lx).tr S11.le, ⟨upd_of (upd_of kn.1), upd_of (upd_of kn.2.1), upd_of (upd_of kn.2.2)⟩, upd_of (upd_of kd), B12, ?_⟩
      rw [hnext, if_neg e]
      exact (hD.imp fun _ _ => IsDifT.mono (lx.tr S11.le)).app (.one ⟨c11, _, _, _, 0, rfl, e11, ⟨t9, rfl⟩, ⟨t10, rfl⟩, IsL.mono (lx.tr S11.le) hxg⟩)
end
end Mine
end
section
open PySem PySem.W PyProof.Rows
set_option maxRecDepth 100000
namespace Mine
theorem rs_sub (a b : Nat) : Builtin.Range.rangeSize 0 ((a : Int) - (b : Int)) 1 = ((a - b : Nat) : Int) := by
  unfold Builtin.Range.rangeSize
  simp; split <;> lia  
theorem range_same {α : Type} (n : Nat) (x : α) : (List.range n).flatMap (fun _ => [x]) = List.replicate n x := by
  rw [fm_one, List.map_const']; simp
noncomputable def nLk : List (Str × NameKind) := [(".0", .local), ("made", .local), ("shown", .local), ("word", .local), ("k", .local), ("range", .globalImplicit)]
section
variable {w : World} {A : Around} {hp : Heap} {gs : Array GenState} {dr : Drawn} {tk : Nat} {os : OsState} {env : Env} {e0 G0 g : Heap} {L : Addr} {cs : List (Str × Addr)} {m cm : Str → Option Value} {own : List (Addr × (Obj → Prop))}
set_option maxHeartbeats 2000000 in
/-- y = [word for made, shown, word in due for k in range(xa - xb)] -/
theorem lacks_stmt {y xa xb : Str} {q0 q1 q2 q3 q4 q5 q6 q7 q8 q9 r0 r1 r2 r3 r4 : Pos} {dv : Value} {DD : List Dif} {fa fb : Dif → Nat} {Q : Flow → Shared → Prop} (V : Ev env nLaw L cs) (R : Rm A 0) (G : Gl (KK w) hp) (B : Bd e0 G0 L cs m cm own g hp)
    (hy : nLaw.lookup y = some .local) (na : nLk.lookup xa = some .local) (nb : nLk.lookup xb = some .local) (da : (xa == ("__debug__" : Str)) = false) (db : (xb == ("__debug__" : Str)) = false)
    (ma : ∀ (m : Str → Option Value) (d : Dif) t1 t2 vc, ∃ t, upd (upd (upd m "made" (.int (d.1 : Nat) t1)) "shown" (.int (d.2.1 : Nat) t2)) "word" vc xa = some (.int (fa d : Nat) t))
    (mb : ∀ (m : Str → Option Value) (d : Dif) t1 t2 vc, ∃ t, upd (upd (upd m "made" (.int (d.1 : Nat) t1)) "shown" (.int (d.2.1 : Nat) t2)) "word" vc xb = some (.int (fb d : Nat) t))
    (kd : m "due" = some dv) (hd : IsL g (IsDifT g) dv DD) (hl : DD.length ≤ 1000) (hb : ∀ d ∈ DD, fa d ≤ 1000 ∧ fb d ≤ 1000)
    (hsw : swapsWith (.ListComp (.Name "word" q0) [⟨.Tuple [.Name "made" q1, .Name "shown" q2, .Name "word" q3] 0 q4, .Name "due" q5, [], 0⟩, ⟨.Name "k" q6, .Call (.Name "range" q7) [.BinOp (.Name xa q8) .Sub (.Name xb q9) r0] [] r1, [], 0⟩] (sco nLk) r2) (some (.Name y r3)) r4.line env = pure true)
    (h : ∀ g' h' tk' v, Bd e0 G0 L cs (upd m y v) cm own g' h' → LE g g' → LL g' v (lacksOf (fun d => fa d - fb d) DD) → Q .next ⟨h', gs, dr, tk', os⟩) :
    Wp pg w A (exec (.Assign [.Name y r3] (.ListComp (.Name "word" q0) [⟨.Tuple [.Name "made" q1, .Name "shown" q2, .Name "word" q3] 0 q4, .Name "due" q5, [], 0⟩, ⟨.Name "k" q6, .Call (.Name "range" q7) [.BinOp (.Name xa q8) .Sub (.Name xb q9) r0] [] r1, [], 0⟩] (sco nLk) r2) r4) env) Q ⟨hp, gs, dr, tk, os⟩ := by
  obtain ⟨ta, tvs, tn, rfl, et, hta⟩ := hd
  have htl := hta.len
  refine comp_assign (cl := []) V hy hsw (closure_of V.cl (by rfl)) (by decide) (by rfl) (by decide) (nameL V B (by rfl) kd ?_)
  refine ⟨hp, _, _, _, _, g, _, fun out gg => All2 (Ints gg) out (lacksOf (fun d => fa d - fb d) DD), e0, G0, _, _, _, _, rfl, B, Ready.list B.le et, fun out a b l h => AllInts.mono l h, fun C D I h2 tk2 hI B2 => ?_, fun g3 h3' tk3 D out n3 B3 l3 e3 hout => h g3 h3' tk3 _ B3 l3 ⟨D, out, n3, rfl, e3, hout⟩⟩
  have V1 := V.comp (C := C) (cl := []) (scope := { kind := .function, names := nLk, isGenerator := false, isCoroutine := false }) (by rfl)
  refine compL (out₀ := []) (rest := []) (d := 0) (xs := DD) (by rfl) (.inr ⟨_, _, _, rfl⟩) (It.list R.hh et) LE.rfl' hta.len (IsDifT g) (fun i v hv => hta.get hv) (fun _ => True) (fun gg v y => Ints gg v y) (fun a b v y l h => IsL.mono l h) (fun d => List.replicate (fa d - fb d) d.2.2) ?_ trivial (B2.weaken (pre := [(D, isLst [])]) (q := listIt ta 0) ?_) ?_
  · intro i' v d m2 ys g4 h4 tk4 hd hv l _ hys B4
    obtain ⟨p, va, vb, vc, tn', rfl, et', ⟨t1, rfl⟩, ⟨t2, rfl⟩, hw⟩ := hv
    have hyl := hys.len
    obtain ⟨b1, b2⟩ := hb d (List.mem_of_getElem? hd)
    have hyb : ys.length ≤ 1000 * 1000 := by
      have h1 := flatMap_le (fun d : Dif => List.replicate (fa d - fb d) d.2.2) 1000 (DD.take i') fun x hx => by
        rw [List.length_replicate]; have := hb x (List.mem_of_mem_take hx); lia  
      have h2 : (DD.take i').length ≤ DD.length := by rw [List.length_take]; lia  
      have h3 : 1000 * (DD.take i').length ≤ 1000 * 1000 := Nat.mul_le_mul_left _ (by lia  )
      lia  
    obtain ⟨tA, mA⟩ := ma m2 d t1 t2 vc
    obtain ⟨tB, mB⟩ := mb m2 d t1 t2 vc
    refine (letGo_tup (pre := [(D, isLst ([] ++ ys))]) B4 (assign3 R.hh V1 B4 (l _ _ et') (by rfl) (by rfl) (by rfl) fun h5 tk5 B5 => tests_nil ?_))
    refine inner_nest (by rfl) (callTy (nameB V1 (G.mono B5.kp) (by rfl) (by rfl) bb_range ⟨rfl, arg1 (eBin (nameL V1 B5 na mA (nameL V1 B5 nb mB (iSub fun t6 tk6 => ?_) db) da))⟩))
    refine range1 B5 fun h7 tk7 r z1 z2 z3 hr B7 => ?_
    refine iterR B7 hr (small_of (by lia  ) (by lia  ) (.inl rfl)) (rs_sub (fa d) (fb d)) fun h8 I8 B8 => ⟨?_, fun Q' E hq => ?_⟩
    · refine compL (out₀ := [] ++ ys) (rest := [(I, listIt ta (i' + 1))]) (d := 1) (xs := List.range (fa d - fb d)) (by rfl) (.inl (by rfl)) (It.rangeN R.hh (fa d - fb d)) LE.rfl' (by simp) IsNat (fun i v hv => ⟨i, by simp [hv.1], hv.2⟩) (fun m => m "word" = some vc) (fun gg v y => Ints gg v y) (fun a b v y l h => IsL.mono l h) (fun _ => [d.2.2]) ?_ upd_self (B8.perm (.swap ..)) ?_
      · intro i2 v2 k m3 zs g9 h9 tk9 hk hv2 l9 hk9 hzs B9
        have hzl := hzs.len
        rw [fm_one, List.length_map, List.length_take, List.length_range] at hzl
        refine letGo_name (assignL V1 B9 (by rfl) fun h10 tk10 B10 => tests_nil ?_)
        exact emit_one (nameL V1 B10 (by rfl) (upd_of hk9) ⟨_, _, _, _, rfl, LE.rfl', upd_of hk9, B10, IsL.mono (l.tr l9) hw⟩) (by show ([] ++ ys ++ zs).length ≤ _; rw [List.nil_append, List.length_append, sizeLine_eq]; lia  )
      · intro h' tk' m5 g5 zs l5 _ B5' hz
        rw [range_same] at hz
        exact ⟨.next, rfl, h', tk', m5, g5, zs, rfl, l5, trivial, B5', hz⟩
    · exact (It.rangeN (prog := pg) (w := w) (g := g4) (I := I8) R.hh (fa d - fb d)).self 0 _ Q' E B8.le (B8.at (a := I8) (p := rangeIt 0 1 (fa d - fb d) 0) (by first | exact .head _ | exact .tail _ (.head _) | exact .tail _ (.tail _ (.head _)) | exact .tail _ (.tail _ (.tail _ (.head _))) | exact .tail _ (.tail _ (.tail _ (.tail _ (.head _)))) | exact .tail _ (.tail _ (.tail _ (.tail _ (.tail _ (.head _))))))) hq
  · rintro o rfl; exact ⟨rfl, rfl⟩
  · intro h' tk' m' g' ys l _ B' hy
    exact ⟨_, h', tk', m', ys, [], g', rfl, rfl, B', hy⟩
end
end Mine
end
section
open PySem PySem.W PyProof.Rows
set_option maxRecDepth 100000
namespace Mine
section
variable {w : World} {A : Around} {hp : Heap} {gs : Array GenState} {dr : Drawn} {tk : Nat} {os : OsState} {env : Env} {e0 G0 g : Heap} {L : Addr} {cs : List (Str × Addr)} {m cm : Str → Option Value} {own : List (Addr × (Obj → Prop))}
theorem difs_mem {s t seen : List (List Int)} {d : Dif} (h : d ∈ difs s t seen) : d.1 ≤ s.length ∧ d.2.1 ≤ t.length := by
  unfold difs at h
  obtain ⟨x, _, rfl⟩ := List.mem_map.mp h
  exact ⟨List.count_le_length, List.count_le_length⟩
theorem assign2 {x y : Str} {p1 p2 pos : Pos} {k : Nat} {a b : Value} {t : Addr} {n : Nat} {names : List (Str × NameKind)} {Q : Unit → Shared → Prop} {h₀ g₀ : Heap} {cs' : List (Str × Addr)} (hh : A.handled = none) (V : Ev env names L cs') (B : Bd h₀ g₀ L cs m cm own g hp) (ht : g.get? t = some (tup [a, b] n))
    (hx : names.lookup x = some .local) (hy : names.lookup y = some .local)
    (h : ∀ h' tk', Bd h₀ g₀ L cs (upd (upd m x a) y b) cm own g h' → Q () ⟨h', gs, dr, tk', os⟩) : Wp pg w A (assign (.Tuple [.Name x p1, .Name y p2] k pos) env (.ref t)) Q ⟨hp, gs, dr, tk, os⟩ := by
  refine assignTup hh B ht fun h1 B1 => ?_
  refine inOrder (t := assign (.Name x p1) env) (ts := [assign (.Name y p2) env]) (assignL V B1 hx fun h2 tk2 B2 => ?_)
  exact inOrder (assignL V B2 hy fun h3 tk3 B3 => inOrder_nil (h _ _ B3))
set_option maxHeartbeats 4000000 in
/-- the law's last rows -/
theorem law_end {E F Z : Addr} {tv dv : Value} {ev fv zv : List Value} {S : List (List Int)} {Q : Flow → Shared → Prop} (T : Fix w A env L cs e0 G0) (B : Bd e0 G0 L cs m cm [(204, isTabs), (Z, isLst zv), (F, isLst fv), (E, isLst ev)] g hp)
    (km : Names E F tv m) (kd : m "due" = some dv) (hE : All2 (Ints g) ev (derived S id 4)) (hF : All2 (Ints g) fv (derived S (fun l => l.take 1) 5))
    (hd : IsL g (IsDifT g) dv (difs (derived S id 4) (derived S (fun l => l.take 1) 5) (onceOf (derived S id 4 ++ derived S (fun l => l.take 1) 5))))
    (h4 : S.length = 4) (h3 : ∀ s ∈ S, s.length ≤ 3) (hpl : ∀ s ∈ S.drop 2, placesN s = [])
    (h : ∀ h' tk' m' cm' g' own, Bd e0 G0 L cs m' cm' own g' h' → (204, isTabs) ∈ own → Q (.ret (.bool true)) ⟨h', gs, dr, tk', os⟩) :
    Wp pg w A (execs ((lawStmts w).drop 10) env) Q ⟨hp, gs, dr, tk, os⟩ := by
  obtain ⟨V, hcs, hfl, hfr, R, X, he0⟩ := id T
  have sE := any_small h4 h3 hpl
  have sF := one_small h3 one_first
  have hspec := cd_spec (derived S id 4) (derived S (fun l => l.take 1) 5)
  have pM := missing_perm (derived S id 4) (derived S (fun l => l.take 1) 5)
  have pO := over_perm (derived S id 4) (derived S (fun l => l.take 1) 5)
  have hob := once_bound (E := derived S id 4) (F := derived S (fun l => l.take 1) 5)
  have lU := uld_len (derived S id 4).reverse [] (derived S (fun l => l.take 1) 5)
  generalize hDE : derived S id 4 = DE at *
  generalize hDF : derived S (fun l => l.take 1) 5 = DF at *
  have hDl := difs_len DE DF (onceOf (DE ++ DF))
  have hDb : ∀ d ∈ difs DE DF (onceOf (DE ++ DF)), d.1 ≤ 1000 ∧ d.2.1 ≤ 1000 := fun d q => by have := difs_mem q; lia  
  generalize hDD : difs DE DF (onceOf (DE ++ DF)) = DD at *
  have B := (B.perm (own' := [(E, isLst ev), (F, isLst fv), (204, isTabs), (Z, isLst zv)]) (by
    refine .trans (List.perm_middle (l₁ := [(204, isTabs), (Z, isLst zv), (F, isLst fv)]) (l₂ := []) (a := (E, isLst ev))) (.cons _ ?_)
    exact List.perm_middle (l₁ := [(204, isTabs), (Z, isLst zv)]) (l₂ := []) (a := (F, isLst fv))))
  have lE := hE.len
  have lF := hF.len
  obtain ⟨en, eE⟩ := B.atL (a := E) (vs := ev) (by first | exact .head _ | exact .tail _ (.head _) | exact .tail _ (.tail _ (.head _)) | exact .tail _ (.tail _ (.tail _ (.head _))) | exact .tail _ (.tail _ (.tail _ (.tail _ (.head _)))) | exact .tail _ (.tail _ (.tail _ (.tail _ (.tail _ (.head _))))))
  obtain ⟨fn, eF⟩ := B.atL (a := F) (vs := fv) (by first | exact .head _ | exact .tail _ (.head _) | exact .tail _ (.tail _ (.head _)) | exact .tail _ (.tail _ (.tail _ (.head _))) | exact .tail _ (.tail _ (.tail _ (.tail _ (.head _)))) | exact .tail _ (.tail _ (.tail _ (.tail _ (.tail _ (.head _))))))
  -- if _count_diff_all_purpose(every, first) != due
  refine sCons (sIf (tCmp (callDef (K := KK w) (a := 173) (by rfl) (nameG V (T.gl B) (by rfl) (by rfl) ⟨rfl, argCons (nameL V B (by rfl) km.1 (argCons (nameL V B (by rfl) km.2.1 (argNil ⟨T.gl B, ?_⟩))))⟩))))
  refine cd_call (T.gl B) B.le (R.less (by decide)) eE eF hE hF (by lia  ) (by lia  ) fun g1 h1 tk1 v1 S1 hv1 => ?_
  have B1 := B.pure S1
  rw [hspec] at hv1
  refine nameL V B1 (by rfl) kd (ne_difs (T.gl B1).X ((IsL.mono B1.le hv1).imp fun _ _ => IsDif.mono B1.le) ((IsL.mono (S1.le.tr B1.le) hd).imp fun _ _ => IsDifT.mono (S1.le.tr B1.le)) R.u200 (truB ?_))
  refine kIf_f (by decide) ?_
  refine sNil ?_
  have hd1 : IsL g1 (IsDifT g1) dv DD := (IsL.mono S1.le hd).imp fun _ _ => IsDifT.mono S1.le
  -- lacks, over
  refine sCons (lacks_stmt (fa := fun d => d.1) (fb := fun d => d.2.1) V (R.less (Nat.zero_le _)) (T.gl B1) B1 (by rfl) (by rfl) (by rfl) (by decide) (by decide) (fun m d t1 t2 vc => ⟨t1, upd_of (upd_of upd_self)⟩) (fun m d t1 t2 vc => ⟨t2, upd_of upd_self⟩) kd hd1 (by lia  ) hDb (swaps_lc V (by rfl) (by rfl)) fun g2 h2 tk2 lv B2 l2 hlk => ?_)
  refine sCons (lacks_stmt (fa := fun d => d.2.1) (fb := fun d => d.1) V (R.less (Nat.zero_le _)) (T.gl B2) B2 (by rfl) (by rfl) (by rfl) (by decide) (by decide) (fun m d t1 t2 vc => ⟨t2, upd_of upd_self⟩) (fun m d t1 t2 vc => ⟨t1, upd_of (upd_of upd_self)⟩) (upd_of kd) ((IsL.mono l2 hd1).imp fun _ _ => IsDifT.mono l2) (by lia  ) (fun d q => ⟨(hDb d q).2, (hDb d q).1⟩) (swaps_lc V (by rfl) (by rfl)) fun g3 h3' tk3 ov B3 l3 hov => ?_)
  have l13 : LE g g3 := (S1.le.tr l2).tr l3
  -- missing, unexpected = unorderable_list_difference(every, first)
  obtain ⟨en3, eE3⟩ := B3.atL (a := E) (vs := ev) (by first | exact .head _ | exact .tail _ (.head _) | exact .tail _ (.tail _ (.head _)) | exact .tail _ (.tail _ (.tail _ (.head _))) | exact .tail _ (.tail _ (.tail _ (.tail _ (.head _)))) | exact .tail _ (.tail _ (.tail _ (.tail _ (.tail _ (.head _))))))
  obtain ⟨fn3, eF3⟩ := B3.atL (a := F) (vs := fv) (by first | exact .head _ | exact .tail _ (.head _) | exact .tail _ (.tail _ (.head _)) | exact .tail _ (.tail _ (.tail _ (.head _))) | exact .tail _ (.tail _ (.tail _ (.tail _ (.head _)))) | exact .tail _ (.tail _ (.tail _ (.tail _ (.tail _ (.head _))))))
  obtain ⟨oL, es, ep, eL, dL, _⟩ := B3.ns
  obtain ⟨_, xE, _, nEL, _⟩ := B3.has (E, isLst ev) (by first | exact .head _ | exact .tail _ (.head _) | exact .tail _ (.tail _ (.head _)) | exact .tail _ (.tail _ (.tail _ (.head _))) | exact .tail _ (.tail _ (.tail _ (.tail _ (.head _)))) | exact .tail _ (.tail _ (.tail _ (.tail _ (.tail _ (.head _))))))
  obtain ⟨_, xF, _, nFL, _⟩ := B3.has (F, isLst fv) (by first | exact .head _ | exact .tail _ (.head _) | exact .tail _ (.tail _ (.head _)) | exact .tail _ (.tail _ (.tail _ (.head _))) | exact .tail _ (.tail _ (.tail _ (.tail _ (.head _)))) | exact .tail _ (.tail _ (.tail _ (.tail _ (.tail _ (.head _))))))
  have nEF : E ≠ F := (List.pairwise_cons.mp B3.nd).1 (F, isLst fv) (by simp)
  obtain ⟨hX, hXe⟩ : ∃ hX, hX = only h3' fun b => decide (b ≠ E ∧ b ≠ F ∧ b ≠ L) := ⟨_, rfl⟩
  have xget : ∀ b o, hX.get? b = some o → h3'.get? b = some o ∧ b ≠ E ∧ b ≠ F ∧ b ≠ L := fun b o q => by
    rw [hXe, only_get] at q
    split at q
    · rename_i z; exact ⟨q, of_decide_eq_true z⟩
    · cases q
  have xof : ∀ b o, b ≠ E → b ≠ F → b ≠ L → h3'.get? b = some o → hX.get? b = some o := fun b o z1 z2 z3 q => by
    rw [hXe, only_get, if_pos (decide_eq_true ⟨z1, z2, z3⟩)]; exact q
  have xno : ∀ b, (b = E ∨ b = F ∨ b = L) → hX.get? b = none := fun b z => by
    cases q : hX.get? b with
    | none => rfl
    | some o =>
      obtain ⟨_, z1, z2, z3⟩ := xget _ _ q
      rcases z with z | z | z
      · exact absurd z z1
      · exact absurd z z2
      · exact absurd z z3
  have lX : LE g3 hX := fun b o q => xof b o (fun z => by rw [z, xE] at q; cases q) (fun z => by rw [z, xF] at q; cases q) (fun z => by rw [z, B3.offL] at q; cases q) (B3.le _ _ q)
  refine sCons (sAssignT (callDef (K := KK w) (a := 92) (by rfl) (nameG V (T.gl B3) (by rfl) (by rfl) ⟨rfl, argCons (nameL V B3 (by rfl) (upd_of (upd_of km.1)) (argCons (nameL V B3 (by rfl) (upd_of (upd_of km.2.1)) (argNil ⟨T.gl B3, ?_⟩))))⟩)) (by rfl))
  refine uld_call (E := E) (F := F) (LL := L) (gi := g3) (hX := hX) (lenv := env) (oLL := oL) (X.G.mono (B3.ge.tr lX)) (fun b o q => (xget b o q).1) xof (xno E (.inl rfl)) (xno F (.inr (.inl rfl))) (xno L (.inr (.inr rfl))) lX (R.less (by decide)) hfr hfl (by rw [V.kd]; decide)
    eL (fun vs q => by rw [dL] at q; cases q) eE3 eF3 nEF nEL nFL (AllInts.mono l13 hE) (AllInts.mono l13 hF) (by lia  ) (by lia  ) fun h5 tk5 T5 M5 ws rs nM nE nF k5 kL5 kE5 kF5 zT eT zM nMT eM hws hrs => ?_
  have B5 := B3.called (p' := isLst []) (q' := isLst rs) k5 (fun o q => by rw [eL] at q; cases q; exact kL5) kE5 ⟨nE, rfl⟩ kF5 ⟨nF, rfl⟩
  obtain ⟨w1, w2, w3⟩ := B3.lts
  obtain ⟨g6, B6, l6, n6⟩ := B5.adopt (z := h3'.objs.size) B3.szh w1 w2 (fun p hp' => by
    rcases List.mem_cons.mp hp' with rfl | hp'
    · exact w3 (E, isLst ev) (.head _)
    rcases List.mem_cons.mp hp' with rfl | hp'
    · exact w3 (F, isLst fv) (.tail _ (.head _))
    · exact w3 p (.tail _ (.tail _ hp')))
  refine assign2 R.hh V B6 (n6 _ _ zT eT) (by rfl) (by rfl) fun h7 tk7 B7 => ?_
  -- return ..
  have eM7 := n6 _ _ zM eM
  obtain ⟨fn7, eF7⟩ := B7.atL (a := F) (vs := rs) (by first | exact .head _ | exact .tail _ (.head _) | exact .tail _ (.tail _ (.head _)) | exact .tail _ (.tail _ (.tail _ (.head _))) | exact .tail _ (.tail _ (.tail _ (.tail _ (.head _)))) | exact .tail _ (.tail _ (.tail _ (.tail _ (.tail _ (.head _))))))
  have lws := hws.len
  have lrs := hrs.len
  have lU1 := lU.1
  have lU2 := lU.2
  rw [List.length_reverse] at lU1
  simp only [List.length_nil, Nat.zero_add] at lU1
  have hlk6 : LL g6 lv (lacksOf (fun d => d.1 - d.2.1) DD) := LL.mono (l3.tr l6) hlk
  have hov6 : LL g6 ov (lacksOf (fun d => d.2.1 - d.1) DD) := LL.mono l6 hov
  refine sCons (sRet (eAnd2 (eCmp (callBu (nameB V (T.gl B7) (by rfl) (by rfl) bb_sorted ⟨rfl, arg1 (nameL V B7 (by rfl) (upd_of upd_self) ?_)⟩)))))
  refine sorted_spec B7.le ⟨M5, ws, nM, rfl, B7.le _ _ eM7, AllInts.mono (l6.tr B7.le) hws⟩ (by lia  ) R.u74 fun g8 h8 u8 ks8 S8 hu8 p8 s8 => ?_
  have B8 := B7.pure S8
  refine callBu (nameB V (T.gl B8) (by rfl) (by rfl) bb_sorted ⟨rfl, arg1 (nameL V B8 (by rfl) (upd_of (upd_of (upd_of upd_self))) ?_)⟩)
  refine sorted_spec B8.le (LL.mono (S8.le.tr B8.le) hlk6) (by rw [← pM.length_eq]; lia  ) R.u74 fun g9 h9 u9 ks9 S9 hu9 p9 s9 => ?_
  have B9 := B8.pure S9
  have same1 : ks8 = ks9 := sorted_same (p8.trans (pM.trans p9.symm)) s8 s9
  refine eqLL (LL.mono S9.kp hu8) hu9 R.u64 (truB ?_)
  rw [if_pos (by simpa using same1)]
  obtain ⟨fn9, eF9⟩ := B9.atL (a := F) (vs := rs) (by first | exact .head _ | exact .tail _ (.head _) | exact .tail _ (.tail _ (.head _)) | exact .tail _ (.tail _ (.tail _ (.head _))) | exact .tail _ (.tail _ (.tail _ (.tail _ (.head _)))) | exact .tail _ (.tail _ (.tail _ (.tail _ (.tail _ (.head _))))))
  refine eCmp (callBu (nameB V (T.gl B9) (by rfl) (by rfl) bb_sorted ⟨rfl, arg1 (nameL V B9 (by rfl) upd_self ?_)⟩))
  refine sorted_spec B9.le ⟨F, rs, fn9, rfl, eF9, AllInts.mono ((l6.tr (S8.le.tr S9.le)).tr B9.le) hrs⟩ (by lia  ) R.u74 fun g10 h10 u10 ks10 S10 hu10 p10 s10 => ?_
  have B10 := B9.pure S10
  refine callBu (nameB V (T.gl B10) (by rfl) (by rfl) bb_sorted ⟨rfl, arg1 (nameL V B10 (by rfl) (upd_of (upd_of upd_self)) ?_)⟩)
  refine sorted_spec B10.le (LL.mono ((S8.le.tr S9.le).tr (S10.le.tr B10.le)) hov6) (by rw [← pO.length_eq]; lia  ) R.u74 fun g11 h11 u11 ks11 S11 hu11 p11 s11 => ?_
  have B11 := B10.pure S11
  have same2 : ks10 = ks11 := sorted_same (p10.trans (pO.trans p11.symm)) s10 s11
  refine eqLL (LL.mono S11.kp hu10) hu11 R.u64 ?_
  rw [decide_eq_true same2]
  exact h _ _ _ _ _ _ B11 (by simp)
end
end Mine
end
section
open PySem PySem.W PyProof.Rows
set_option maxRecDepth 100000
namespace Mine
section
variable {w : World} {A : Around} {hp : Heap} {gs : Array GenState} {dr : Drawn} {tk : Nat} {os : OsState} {env : Env} {e0 G0 : Heap} {L : Addr} {cs : List (Str × Addr)} {m cm : Str → Option Value}
set_option maxHeartbeats 4000000 in
theorem law_walk {a : Addr} {vs : List Value} {ns : List Int} {Q : Flow → Shared → Prop} (T : Fix w A env L cs e0 G0) (hcode : env.code = .ref 206)
    (B : Bd e0 G0 L cs m cm [(204, isTab [])] G0 hp) (hms : m "script" = some (.ref a)) (hl : G0.IsList a vs.toArray) (hi : All2 IsInt vs ns) (hlen : ns.length ≤ 63)
    (h : ∀ h' tk' m' cm' g' own, Bd e0 G0 L cs m' cm' own g' h' → (204, isTabs) ∈ own → Q (.ret (.bool true)) ⟨h', gs, dr, tk', os⟩) : Wp pg w A (execs (lawStmts w) env) Q ⟨hp, gs, dr, tk, os⟩ := by
  obtain ⟨V, hcs, hfl, hfr, R, X, he0⟩ := id T
  have gl : ∀ {m' cm' own g' h'}, Bd e0 G0 L cs m' cm' own g' h' → Gl (KK w) h' := fun B => X.G.mono (B.ge.tr B.le)
  -- row = _law_signs(script)
  refine sCons (sAssign (callDef (K := KK w) (a := 180) (by rfl) (nameG V (gl B) (by rfl) (by rfl) ⟨rfl, arg1 (nameL V B (by rfl) hms ⟨gl B, ?_⟩)⟩)))
  refine signs_spec (gl B) B.le (R.less (by decide)) (let ⟨o, e, r⟩ := hl; ⟨o, B.le _ _ e, r⟩) hi hlen fun g1 h1 tk1 rv S1 hrow => ?_
  have B1 := B.pure S1
  refine storeL V B1 (by rfl) fun h2 tk2 B2 => ?_
  -- sides = _law_sides(row, .., ..)
  refine sCons (sAssign (callDef (K := KK w) (a := 185) (by rfl) (nameG V (gl B2) (by rfl) (by rfl) ⟨rfl, argCons (nameL V B2 (by rfl) upd_self (argCons ?_))⟩)))
  refine eLam V B2 hcode (X.mono B2.ge) True.intro (by rfl) (by rfl) (closure_of V.cl (by rfl)) fun f1 c1 pm1 ct1 h3 g3 tk3 l3 B3 ho3 hc3 => ?_
  refine argCons (eLam V B3 hcode (X.mono B3.ge) (by simp [TriplesOk, rawInt]) (by simp [codeAmong, rawInt]) (by rfl) (closure_of V.cl (by rfl)) fun f2 c2 pm2 ct2 h4 g4 tk4 l4 B4 ho4 hc4 => ?_)
  refine argNil ⟨gl B4, ?_⟩
  refine sides_spec (k := 1) (ends := isZero) (plain := isTerm) (gl B4) B4.le (R.less (by decide)) (IsL.mono (l3.tr l4) hrow) ((lam_eof ho3 hc3).mono l4) (lam_ter ho4 hc4) signs_len (sides_four ns) fun g5 h5 tk5 sv S5 hsv => ?_
  have B5 := B4.pure S5
  refine storeL V B5 (by rfl) fun h6 tk6 B6 => ?_
  have hS : LL g5 sv (gram ns) := hsv
  clear hsv
  have h4 := gram_len ns
  have h3 := gram_three ns
  have hpl := gram_plain ns
  -- every
  refine sCons (sAssign (callDef (K := KK w) (a := 190) (by rfl) (nameG V (gl B6) (by rfl) (by rfl) ⟨rfl, argCons (nameL V B6 (by rfl) upd_self (argCons (cInt fun t7 tk7 => argCons ?_)))⟩)))
  refine eLam V B6 hcode (X.mono B6.ge) (by simp [TriplesOk, rawInt]) (by simp [codeAmong, rawInt]) (by rfl) (closure_of V.cl (by rfl)) fun f3 c3 pm3 ct3 h8 g8 tk8 l8 B8 ho8 hc8 => ?_
  refine argNil ⟨gl B8, ?_⟩
  refine derived_spec (k := 1) (steps := 4) (p := id) (gl B8) B8.le (R.less (by decide)) (LL.mono l8 hS) (lam_id ho8 hc8) (fun l => List.Sublist.refl l) h4 h3 (by lia  ) fun g9 h9 tk9 E ev en S9 nE zE eE hE => ?_
  have B9 := (B8.addNew (q := isLst ev) S9 eE ⟨en, rfl⟩ nE zE).perm (.swap ..)
  refine storeL V B9 (by rfl) fun h10 tk10 B10 => ?_
  -- first
  refine sCons (sAssign (callDef (K := KK w) (a := 190) (by rfl) (nameG V (gl B10) (by rfl) (by rfl) ⟨rfl, argCons (nameL V B10 (by rfl) (upd_of upd_self) (argCons (cInt fun t11 tk11 => argCons ?_)))⟩)))
  refine eLam V B10 hcode (X.mono B10.ge) (by simp [TriplesOk, rawInt]) (by simp [codeAmong, rawInt]) (by rfl) (closure_of V.cl (by rfl)) fun f4 c4 pm4 ct4 h12 g12 tk12 l12 B12 ho12 hc12 => ?_
  refine argNil ⟨gl B12, ?_⟩
  have l9 : LE g5 g12 := (l8.tr S9.le).tr l12
  refine derived_spec (k := 1) (steps := 5) (p := fun l => l.take 1) (gl B12) B12.le (R.less (by decide)) (LL.mono l9 hS) (lam_first ho12 hc12) (fun l => List.take_sublist _ _) h4 h3 (by lia  ) fun g13 h13 tk13 F fv fn S13 nF zF eF hF => ?_
  have B13 := (B12.addNew (q := isLst fv) S13 eF ⟨fn, rfl⟩ nF zF).perm (.swap ..)
  refine storeL V B13 (by rfl) fun h14 tk14 B14 => ?_
  -- last
  refine sCons (sAssign (callDef (K := KK w) (a := 190) (by rfl) (nameG V (gl B14) (by rfl) (by rfl) ⟨rfl, argCons (nameL V B14 (by rfl) (upd_of (upd_of upd_self)) (argCons (cInt fun t15 tk15 => argCons ?_)))⟩)))
  refine eLam V B14 hcode (X.mono B14.ge) (by simp [TriplesOk, rawInt]) (by simp [codeAmong, rawInt]) (by rfl) (closure_of V.cl (by rfl)) fun f5 c5 pm5 ct5 h16 g16 tk16 l16 B16 ho16 hc16 => ?_
  refine argNil ⟨gl B16, ?_⟩
  refine derived_spec (k := 1) (steps := 5) (p := fun l => l.drop (l.length - 1)) (gl B16) B16.le (R.less (by decide)) (LL.mono ((l9.tr S13.le).tr l16) hS) (lam_last ho16 hc16) (fun l => List.drop_sublist _ _) h4 h3 (by lia  ) fun g17 h17 tk17 Z zv zn S17 nZ zZ eZ hZ => ?_
  have B17 := (B16.addNew (q := isLst zv) S17 eZ ⟨zn, rfl⟩ nZ zZ).perm (.swap ..)
  refine storeL V B17 (by rfl) fun h18 tk18 B18 => ?_
  -- trees
  refine sCons (sAssign (callDef (K := KK w) (a := 195) (by rfl) (nameG V (gl B18) (by rfl) (by rfl) ⟨rfl, argCons (callDef (K := KK w) (a := 185) (by rfl) (nameG V (gl B18) (by rfl) (by rfl) ⟨rfl, argCons (nameL V B18 (by rfl) (upd_of (upd_of (upd_of (upd_of upd_self)))) (argCons ?_))⟩))⟩)))
  refine eLam V B18 hcode (X.mono B18.ge) (by simp [TriplesOk, rawInt]) (by simp [codeAmong, rawInt]) (by rfl) (closure_of V.cl (by rfl)) fun f6 c6 pm6 ct6 h19 g19 tk19 l19 B19 ho19 hc19 => ?_
  refine argCons (eLam V B19 hcode (X.mono B19.ge) (by simp [TriplesOk, rawInt]) (by simp [codeAmong, rawInt]) (by rfl) (closure_of V.cl (by rfl)) fun f7 c7 pm7 ct7 h20 g20 tk20 l20 B20 ho20 hc20 => ?_)
  refine argNil ⟨gl B20, ?_⟩
  have l17 : LE g1 g20 := ((((((l3.tr l4).tr S5.le).tr ((l9.tr S13.le).tr l16)).tr S17.le).tr l19).tr l20)
  refine sides_spec (k := 1) (ends := isZero) (plain := isTerm) (gl B20) B20.le (R.less (by decide)) (IsL.mono l17 hrow) ((lam_zero ho19 hc19).mono l20) (lam_lt ho20 hc20) signs_len (sides_four ns) fun g21 h21 tk21 sv2 S21 hsv2 => ?_
  have B21 := B20.pure S21
  refine argCons (dispP (argCons (cInt fun t22 tk22 => argNil ⟨_, _, _, _, _, _, rfl, B21.le, by simp [sizeLine_eq], fun g23 h23 N1 S23 e23 => ?_⟩)))
  have B23 := B21.pure S23
  refine argCons (cInt fun t24 tk24 => argNil ⟨gl B23, ?_⟩)
  refine trees_spec h4 h3 6 _ _ _ _ _ _ g23 _ _ [256] 6 _ _ _ (gl B23) B23.le (R.less (by decide)) (LL.mono S23.le hsv2) ⟨N1, _, _, rfl, e23, .one ⟨t22, rfl⟩⟩ (by simp) (Nat.le_refl _) (Nat.le_refl _) (by rfl) fun g25 h25 tk25 tv S25 htv => ?_
  have B25 := B23.pure S25
  refine storeL V B25 (by rfl) fun h26 tk26 B26 => ?_
  have hF' : LT g25 tv (forest (gram ns)) := htv
  clear htv
  have lE : LE g9 g25 := (((((l12.tr S13.le).tr l16).tr S17.le).tr l19).tr l20).tr ((S21.le.tr S23.le).tr S25.le)
  have lF : LE g13 g25 := (((l16.tr S17.le).tr l19).tr l20).tr ((S21.le.tr S23.le).tr S25.le)
  have lZ : LE g17 g25 := (l19.tr l20).tr ((S21.le.tr S23.le).tr S25.le)
  have B27 := B26.weaken (pre := []) (q := isTabs) fun o q => ⟨_, q⟩
  have hE' := AllInts.mono lE hE
  have hF'' := AllInts.mono lF hF
  have hZ' := AllInts.mono lZ hZ
  refine law_tests T B27 ⟨upd_of (upd_of (upd_of upd_self)), upd_of (upd_of upd_self), upd_self⟩ (upd_of upd_self) hE' hF'' hZ' hF' h4 h3 hpl fun h28 tk28 m28 g28 B28 l28 k28 => ?_
  refine law_due T B28 k28 (AllInts.mono l28 hE') (AllInts.mono l28 hF'') (LT.mono l28 hF') h4 h3 hpl fun h29 tk29 m29 cm29 g29 dv B29 l29 k29 kd29 hd29 => ?_
  exact law_end T B29 k29 kd29 (AllInts.mono (l28.tr l29) hE') (AllInts.mono (l28.tr l29) hF'') hd29 h4 h3 hpl h
end
end Mine
end
section
open PySem PySem.W PyProof.Rows
set_option maxRecDepth 100000
namespace Mine
theorem rm_law {env : Env} : Rm (callerA.deeper env) 8 := ⟨rfl, by show 1 + claimMargin + 1 + 8 < recursionLimit; decide +kernel, by show 4 + 3 + 3 * 8 + 200 < cLine; decide +kernel⟩
theorem law_step {w : World} {s₁ : Shared} {h₁ G0 : Heap} {env : Env} {wc : Obj} {cv : Option Value} {L a : Addr} {vs : List Value} {ns : List Int} {m mg mb : Str → Option Value} {cl : Str → Option Addr} {mean mean' : ExcName → Option Value} {args : List WData} {tk : Nat} {p : Program} {loose : List Str} {c : ClaimW}
    (F : Fr G0 L h₁ m) (N : News G0 L h₁ [(L + 1, wc), (204, tabObj #[])]) (hcell : wc.data = .cell cv) (X : (KK w).In G0) (T : Top p loose mean' mg mb G0) (C : CodeHd G0 206 204) (hl : G0.IsList a vs.toArray) (hI : IntsAre vs ns) (hlen : ¬ ((63 : Nat) : Int) < ((ns.length : Nat) : Int)) (hg : s₁.gens = #[])
    (V : Ev env nLaw L (cellsFrom (L + 1) nLaw [])) (hfl : env.frame = some L) (hcode : env.code = .ref 206) (hm : m "script" = some (.ref a)) (l0 : 204 < L)
    (hn : ∀ cls, c.raises args cls = false) (hp : c.post args (.bool true) args = true) {E : Value → Shared → Prop} :
    wpAny (model pg w) (callerA.deeper env) (execs (lawStmts w) env) (fun f s' => GoodW c cl mean args { heap := G0, gens := s₁.gens, drawn := s₁.drawn, toks := s₁.toks, os := s₁.os } (Except.ok (Flow.ret (match f with | .ret v => v | _ => .none))) s' ∧ GrownAll [(206, 204)] s'.heap) E
      ⟨h₁, s₁.gens, s₁.drawn, tk, s₁.os⟩ := by
  have hcs : cellsFrom (L + 1) nLaw [] = [(("one" : Str), L + 1)] := by rfl
  obtain ⟨bm, ob, b1, b2, b3, b4, b5, b6⟩ := T.bmain
  have G : Gl (KK w) G0 := ⟨X, ⟨mg, T.g⟩, ⟨mb, T.b, T.builtins⟩, T.nolimit⟩
  have hX : Lam (KK w) G0 := ⟨G, C, mg, bm, ob, T.g, b1, b2, b3, b4, b5, b6⟩
  obtain ⟨t1, t2, t3⟩ := N (204, tabObj #[]) (.tail _ (.head _))
  obtain ⟨c1, c2, c3⟩ := N (L + 1, wc) (.head _)
  have one : ∀ n x, ([(("one" : Str), L + 1)] : List (Str × Addr)).lookup n = some x → x = L + 1 := fun n x q => by
    have := mem_of_lookup q
    rcases List.mem_singleton.mp this with z
    injection z
  have above : ∀ b, L ≤ b → G0.get? b = none := fun b hb => get_none_of_le (Nat.le_trans F.above hb)
  have B : Bd ⟨#[], G0.life⟩ G0 L (cellsFrom (L + 1) nLaw []) m (fun _ => cv) [(204, isTab [])] G0 h₁ := by
    rw [hcs]
    refine ⟨F.ns, fun n x q => by rw [one n x q]; exact ⟨wc, c1, hcell⟩, by simp, fun n x q => by rcases List.mem_singleton.mp q with z; cases z; exact Nat.lt_succ_self _, fun b o q => ?_, Nat.zero_le _, Nat.zero_le _, LE.rfl', F.keep, fun _ _ q => q, above _ (Nat.le_refl _), fun n x q => by rw [one n x q]; exact above _ (Nat.le_succ _),
      fun n x q => by rw [one n x q]; exact Heap.lt_size c1, fun q hq => ?_, by simp⟩
    · simp [Heap.get?] at q
    · rcases List.mem_singleton.mp hq with rfl
      exact ⟨⟨_, t1, rfl⟩, t3, Nat.zero_le _, t2, fun n x q => by rw [one n x q]; exact Nat.ne_of_lt (Nat.lt_succ_of_lt l0)⟩
  have T' : Fix w (callerA.deeper env) env L (cellsFrom (L + 1) nLaw []) ⟨#[], G0.life⟩ G0 := ⟨V, rfl, hfl, by rfl, rm_law, hX, rfl⟩
  refine Wp.any (law_walk T' hcode B hm hl (of_intsAre hI) (by omega) fun h' tk' m' cm' g' own B' ho => ?_)
  obtain ⟨o, eo, ps, rfl⟩ := B'.at ho
  have F' : Fr G0 L h' m' := ⟨B'.ns, B'.ge.tr B'.le, F.above⟩
  exact ⟨goodW_bool (s₁ := { heap := G0, gens := s₁.gens, drawn := s₁.drawn, toks := s₁.toks, os := s₁.os }) F' hg hn hp, ⟨_, eo⟩, trivial⟩
end Mine
end
open PySem PySem.W PyProof.Rows
set_option maxRecDepth 100000 in
set_option maxHeartbeats 8000000 in
theorem PySem.Challenge.cw_ij0008_01_holds : PySem.Challenge.rw_ij0008_01.Holds := by
  refine Mine.hd ?_
  k_fill
  intro w s₀ s₁ mg mb G y fa o pm cd doc dV kV ho hd hcd hD hmg hg args vals as L hpre hlay hrd hwl hlo
  have K0 := Mine.kx_of (fun _ => rfl) y L.keeps
  have K1 := Mine.kz_tab K0
  have KX := Mine.kz_in K0
  clear K0 y L
  refine Ground.open G ?_
  intro T B D TE TW
  have hT9 : TabsAt ([(206, 204)] : List (Addr × Addr)) s₁.heap := List.forall_mem_cons.mpr ⟨⟨codeHd_of_K (c := 206) (P := 204) KX (by kernel_rfl), K1⟩, fun _ h => nomatch h⟩
  have he9 : cd = PySem.Value.ref 206 := law_code (x := PySem.Str.ofString "law") (c := 206) (P := 204) KX (Top.g T) (by kernel_rfl) hmg ho hd
  subst he9
  clear hmg
  wrow_args hpre hlay hrd hwl hlo
  all_goals (
    refine enter_call ?_
    w_top on
    kn_posts
    w_call any ho hd hcd hD T F
    clear hd
    kn_ghosts F T
    k_drop
    skip)
  all_goals (try k_fold)
  refine Mine.law_step (by assumption) (by assumption) (by assumption) (by assumption) (by assumption) (by assumption) (by assumption) (by assumption) (by assumption) (by assumption) ⟨rfl, rfl, rfl, rfl, rfl, rfl⟩ rfl rfl rfl (by assumption) (raisesW_false ?_) ?_
  · wrow_none_raised
  · wrow_post
