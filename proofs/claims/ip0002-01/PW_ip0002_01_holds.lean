import PyProof.Rows.All
import Wide.All
import OpenK.AllK
import Wide.FinOn
import Lean
import PySem.Challenge.RW_ip0002_01
set_option maxRecDepth 100000
set_option Elab.async false
set_option linter.unusedVariables false
set_option compiler.extract_closed false
noncomputable section
-- HeadA
namespace Mine
open PySem PySem.W PySem.Calls PyProof.Rows

abbrev pw : Program := PySem.Challenge.pw_ip0002_01

section
variable {tb : String → Option Builtin} {p : Program} {w : World} {n₀ : Nat} {ann : Option Value} {b : Nat}
theorem segGo_app : ∀ {n m : Nat} {s s' s'' : Shared} {t t' t'' : Thread}, segGo tb p w n₀ ann b n s t = some (s', t') → segGo tb p w n₀ ann b m s' t' = some (s'', t'') →
    segGo tb p w n₀ ann b (n + m) s t = some (s'', t'')
  | 0, m, s, s', s'', t, t', t'', h, k => by
    simp only [segGo, Option.some.injEq, Prod.mk.injEq] at h
    obtain ⟨rfl, rfl⟩ := h
    rw [Nat.zero_add]; exact k
  | n + 1, m, s, s', s'', t, t', t'', h, k => by
    rw [show n + 1 + m = (n + m) + 1 by omega]
    unfold segGo at h ⊢
    cases he : endAt b t with
    | some f => rw [he] at h; cases h
    | none =>
      rw [he] at h
      cases hk : stepOk n₀ ann t with
      | false => rw [hk] at h; cases h
      | true =>
        rw [hk] at h
        cases hs : step (denote tb) p w s t with
        | halt o s₂ => rw [hs] at h; cases h
        | go s₂ t₂ => rw [hs] at h; exact segGo_app h k

theorem segGo_one {s s' : Shared} {t t' : Thread} (he : endAt b t = none) (hk : stepOk n₀ ann t = true) (hs : step (denote tb) p w s t = .go s' t') :
    segGo tb p w n₀ ann b 1 s t = some (s', t') := by
  unfold segGo
  rw [he, hk, hs]
  rfl
theorem endAt_len {t : Thread} (h : (t.stack.length == b) = false) : endAt b t = none := by
  unfold endAt
  rw [h]
end

/-- m runs from (p, s) on the stack B to a value, by at most b steps, and Q holds there -/
noncomputable def Ex {α : Type} (w : World) (B : List Frame) (c : Code) (b : Nat) (m : Sem α) (p : Pos) (s : Shared) (Q : α → Pos → Shared → Prop) : Prop :=
  ∀ (K : α → Sem PySem.Fin) (H : Value → Sem PySem.Fin) (gd : Bool → Bool) (lv : List Value → List Value), ∃ n a p' s', n ≤ b ∧
    segGo treeTable pw w 11 (some (.ref 6)) 1 n s ⟨m.wrap K H gd lv, c, p, B⟩ = some (s', ⟨K a, c, p', B⟩) ∧ Q a p' s'

section
variable {α β : Type} {w : World} {B : List Frame} {c : Code} {b b' : Nat} {p : Pos} {s : Shared} {Q : α → Pos → Shared → Prop}

theorem Ex.pure {a : α} (h : Q a p s) : Ex w B c 0 (Sem.pure a) p s Q := fun _ _ _ _ => ⟨0, a, p, s, Nat.le_refl 0, rfl, h⟩
theorem Ex.mono {m : Sem α} {Q' : α → Pos → Shared → Prop} (h : Ex w B c b m p s Q) (hb : b ≤ b') (hq : ∀ a p' s', Q a p' s' → Q' a p' s') : Ex w B c b' m p s Q' := fun K H gd lv => by
  obtain ⟨n, a, p', s', h1, h2, h3⟩ := h K H gd lv
  exact ⟨n, a, p', s', Nat.le_trans h1 hb, h2, hq _ _ _ h3⟩
theorem Ex.wrap {m : Sem β} {f : β → Sem α} {R : Value → Sem α} {g : Bool → Bool} {l : List Value → List Value} (h : Ex w B c b m p s (fun x p' s' => Ex w B c b' (f x) p' s' Q)) :
    Ex w B c (b + b') (m.wrap f R g l) p s Q := fun K H gd lv => by
  rw [Sem.wrap_wrap]
  obtain ⟨n, x, p', s', h1, h2, h3⟩ := h (fun x => (f x).wrap K H gd lv) (fun e => (R e).wrap K H gd lv) (fun y => gd (g y)) (fun y => lv (l y))
  obtain ⟨n', a, p'', s'', h4, h5, h6⟩ := h3 K H gd lv
  exact ⟨n + n', a, p'', s'', Nat.add_le_add h1 h4, segGo_app h2 h5, h6⟩
theorem Ex.bind {m : Sem β} {f : β → Sem α} (h : Ex w B c b m p s (fun x p' s' => Ex w B c b' (f x) p' s' Q)) : Ex w B c (b + b') (m >>= f) p s Q := by
  rw [Sem.bind_eq_wrap']
  exact h.wrap
theorem Ex.bind' {m : Sem β} {f : β → Sem α} (h : Ex w B c b m p s (fun x p' s' => Ex w B c b' (f x) p' s' Q)) : Ex w B c (b + b') (m.bind f) p s Q := h.bind
theorem Ex.keep {m : Sem α} {vs : List Value} (h : Ex w B c b m p s Q) : Ex w B c b (m.keep vs) p s Q := by
  rw [Sem.keep_eq_wrap]
  exact (Ex.wrap (b' := 0) (h.mono (Nat.le_refl b) fun a p' s' q => Ex.pure q))
theorem Ex.holding {m : Sem α} {vs : List Value} (h : Ex w B c b m p s Q) : Ex w B c b (holding vs m) p s Q := by
  unfold PySem.holding
  split
  · exact h
  · exact h.keep
theorem Ex.prim {m : Sem α} {f : Unit → Sem α} {s' : Shared} {p' : Pos} (hB : (B.length == 1) = false)
    (hk : ∀ (K : α → Sem PySem.Fin) (H : Value → Sem PySem.Fin) (gd : Bool → Bool) (lv : List Value → List Value), stepOk 11 (some (.ref 6)) ⟨m.wrap K H gd lv, c, p, B⟩ = true)
    (hs : ∀ (K : α → Sem PySem.Fin) (H : Value → Sem PySem.Fin) (gd : Bool → Bool) (lv : List Value → List Value), step (denote treeTable) pw w s ⟨m.wrap K H gd lv, c, p, B⟩ = .go s' ⟨(f ()).wrap K H gd lv, c, p', B⟩)
    (h : Ex w B c b (f ()) p' s' Q) : Ex w B c (b + 1) m p s Q := fun K H gd lv => by
  obtain ⟨n, a, p'', s'', h1, h2, h3⟩ := h K H gd lv
  refine ⟨1 + n, a, p'', s'', by omega, segGo_app (segGo_one (endAt_len hB) (hk K H gd lv) (hs K H gd lv)) h2, h3⟩
theorem Ex.rule {tag : String} {f : Unit → Sem α} (hB : (B.length == 1) = false) (h : Ex w B c b (f ()) p s Q) : Ex w B c (b + 1) (.rule tag f) p s Q :=
  Ex.prim (f := f) hB (fun _ _ _ _ => rfl) (fun _ _ _ _ => rfl) h
theorem Ex.at {q : Pos} {f : Unit → Sem α} (hB : (B.length == 1) = false) (h : Ex w B c b (f ()) q s Q) : Ex w B c (b + 1) (.at q f) p s Q :=
  Ex.prim (f := f) hB (fun _ _ _ _ => rfl) (fun _ _ _ _ => rfl) h
theorem Ex.load {a : Addr} {o : Obj} {q : Option Value} {f : Obj → Sem α} (hB : (B.length == 1) = false) (ho : s.heap.get? a = some o) (h : Ex w B c b (f o) p s Q) : Ex w B c (b + 1) (.load a q f) p s Q :=
  Ex.prim (f := fun _ => f o) hB (fun _ _ _ _ => rfl) (fun _ _ _ _ => by simp only [Sem.wrap, step, ho]) h
theorem Ex.update {a : Addr} {g : Obj → Obj} {q : Option Value} {f : Unit → Sem α} (hB : (B.length == 1) = false) (hl : Nat.ble 11 a = true) (ho : (s.heap.get? a).isSome = true) (h : Ex w B c b (f ()) p { s with heap := s.heap.update a g } Q) : Ex w B c (b + 1) (.update a q g f) p s Q :=
  Ex.prim (f := f) hB (fun _ _ _ _ => by
    show (_ && (Nat.ble 11 a || a == mainNs || a == cStatics || (some (Value.ref 6) == some (Value.ref a)))) = true
    rw [hl]; rfl) (fun _ _ _ _ => by simp only [Sem.wrap, step, ho, if_true]) h
theorem Ex.fresh {f : Tok → Sem α} (hB : (B.length == 1) = false) (h : Ex w B c b (f s.toks) p { s with toks := s.toks + 1 } Q) : Ex w B c (b + 1) (.fresh f) p s Q :=
  Ex.prim (f := fun _ => f s.toks) hB (fun _ _ _ _ => rfl) (fun _ _ _ _ => rfl) h
theorem Ex.ask {f : Setting → Sem α} (hB : (B.length == 1) = false) (h : Ex w B c b (f ⟨pw, w.params⟩) p s Q) : Ex w B c (b + 1) (.ask f) p s Q :=
  Ex.prim (f := fun _ => f ⟨pw, w.params⟩) hB (fun _ _ _ _ => rfl) (fun _ _ _ _ => rfl) h
end
end Mine
-- HeadB
namespace Mine
open PySem PySem.W PySem.Calls PyProof.Rows

/-- what a set of strs holds -/
structure Good (P : Params) (xs : List Str) (es : Array (Int × Value)) (t : SetTable) : Prop where
  only : ∀ e ∈ es.toList, ∃ x tk, x ∈ xs ∧ e = (PyData.keyHash P x, Value.str x tk)
  all : ∀ x ∈ xs, ∃ e ∈ es.toList, e.2.isStr x = true
  size : es.size = xs.length
  fits : t.fits es.size = true

noncomputable def addT (P : Params) (x : Str) (tk : Tok) (es : Array (Int × Value)) (t : SetTable) : Array (Int × Value) × SetTable × Bool × Bool :=
  let L := layNew t es (PyData.keyHash P x) (.str x tk)
  (L.1, (if L.2.1.plain = true then { L.2.1 with plain := false } else L.2.1), L.2.2)

noncomputable def addE (P : Params) (x : Str) (tk : Tok) (es : Array (Int × Value)) (n : Nat) (t : SetTable) : Array (Int × Value) × Nat × SetTable :=
  let L := addT P x tk es t
  if (!L.2.2.1 && L.2.1.tooFull) = true then
    let R := relayAll L.2.1 L.1 (SetTable.grown L.1.size)
    (R.1, n + 1 + 1, R.2.1)
  else (L.1, n + 1, L.2.1)

theorem Good.scan {P : Params} {xs : List Str} {es : Array (Int × Value)} {t : SetTable} (g : Good P xs es t) (hx : xs.length < 4096) (x : Str) (tk : Tok) : byScan (.str x tk) es = true := by
  unfold byScan
  simp only [Value.scannable, Bool.true_and, Bool.and_eq_true, decide_eq_true_eq]
  refine ⟨by rw [g.size]; exact hx, ?_⟩
  rw [Array.all_eq_true']
  intro e he
  obtain ⟨y, u, _, rfl⟩ := g.only e (Array.mem_toList_iff.mpr he)
  rfl
theorem Good.exact {P : Params} {xs : List Str} {es : Array (Int × Value)} {t : SetTable} (g : Good P xs es t) : es.all (fun e => isExactStrKey e.2) = true := by
  rw [Array.all_eq_true']
  intro e he
  obtain ⟨y, u, _, rfl⟩ := g.only e (Array.mem_toList_iff.mpr he)
  rfl
theorem Good.absent {P : Params} {xs : List Str} {es : Array (Int × Value)} {t : SetTable} (g : Good P xs es t) {x : Str} (hx : x ∉ xs) : es.findIdx? (fun e => e.2.isStr x) = none := by
  rw [Array.findIdx?_eq_none_iff]
  intro e he
  obtain ⟨y, u, hy, rfl⟩ := g.only e (Array.mem_toList_iff.mpr he)
  show (y == x) = false
  rw [beq_eq_false_iff_ne]
  rintro rfl
  exact hx hy
theorem Good.push {P : Params} {xs : List Str} {es : Array (Int × Value)} {t : SetTable} (g : Good P xs es t) {x : Str} {tk : Tok} {es' : Array (Int × Value)} {t' : SetTable}
    (hp : List.Perm es'.toList (es.push (PyData.keyHash P x, Value.str x tk)).toList) (hf : t'.fits es'.size = true) : Good P (xs ++ [x]) es' t' := by
  rw [Array.toList_push] at hp
  refine ⟨fun e he => ?_, fun y hy => ?_, ?_, hf⟩
  · rcases List.mem_append.mp (hp.mem_iff.mp he) with h | h
    · obtain ⟨y, u, hy, rfl⟩ := g.only e h
      exact ⟨y, u, List.mem_append_left _ hy, rfl⟩
    · obtain rfl := List.mem_singleton.mp h
      exact ⟨x, tk, List.mem_append_right _ (.head _), rfl⟩
  · rcases List.mem_append.mp hy with h | h
    · obtain ⟨e, he, h2⟩ := g.all y h
      exact ⟨e, hp.mem_iff.mpr (List.mem_append_left _ he), h2⟩
    · obtain rfl := List.mem_singleton.mp h
      exact ⟨_, hp.mem_iff.mpr (List.mem_append_right _ (.head _)), by show (y == y) = true; exact beq_self_eq_true y⟩
  · rw [← Array.length_toList, hp.length_eq, List.length_append, Array.length_toList, g.size, List.length_append]; rfl
theorem fits_plain {t : SetTable} {n : Nat} (h : t.fits n = true) : (if t.plain = true then { t with plain := false } else t).fits n = true := by
  split
  · exact h
  · exact h
theorem addT_good {P : Params} {xs : List Str} {es : Array (Int × Value)} {t : SetTable} (g : Good P xs es t) (x : Str) (tk : Tok) : Good P (xs ++ [x]) (addT P x tk es t).1 (addT P x tk es t).2.1 :=
  g.push (layNew_perm t es _ _) (fits_plain (layNew_fits t es _ _))
theorem Good.perm {P : Params} {xs : List Str} {es es' : Array (Int × Value)} {t t' : SetTable} (g : Good P xs es t) (hp : List.Perm es'.toList es.toList) (hf : t'.fits es'.size = true) : Good P xs es' t' := by
  refine ⟨fun e he => g.only e (hp.mem_iff.mp he), fun y hy => ?_, ?_, hf⟩
  · obtain ⟨e, he, h2⟩ := g.all y hy
    exact ⟨e, hp.mem_iff.mpr he, h2⟩
  · rw [← Array.length_toList, hp.length_eq, Array.length_toList, g.size]
theorem addE_good {P : Params} {xs : List Str} {es : Array (Int × Value)} {t : SetTable} (g : Good P xs es t) (x : Str) (tk : Tok) (n : Nat) : Good P (xs ++ [x]) (addE P x tk es n t).1 (addE P x tk es n t).2.2 := by
  unfold addE
  dsimp only
  split
  · exact (addT_good g x tk).perm (relayAll_perm _ _ _) (relayAll_fits _ _ _)
  · exact addT_good g x tk

/-- the stack in the class body -/
abbrev stk (k : Result → Sem PySem.Fin) (l : List Value) (c : Code) (q q' : Pos) : List Frame := [.ret k none false l c q [], topFrame q']

section
variable {α : Type} {w : World} {c : Code} {p q q' : Pos} {k : Result → Sem PySem.Fin} {l : List Value} {c₀ : Code}
theorem stk_len : ((stk k l c₀ q q').length == 1) = false := rfl
theorem hash_run {sts : List Stmt} {env : Env} (x : Nat) (tk : Tok) (H : Heap) (gs : Array GenState) (dr : Drawn) (T : Nat) (os : OsState) (K : Int → Sem PySem.Fin) (H' : Value → Sem PySem.Fin) (gd : Bool → Bool) (lv : List Value → List Value) :
    segGo treeTable pw w 11 (some (.ref 6)) 1 7 ⟨H, gs, dr, T, os⟩ ⟨(pyHash (.str ⟨#[x]⟩ tk)).wrap K H' gd lv, .body sts env, p, stk k l c₀ q q'⟩ =
      some (⟨H, gs, dr, T + 1, os⟩, ⟨K (PyData.keyHash w.params ⟨#[x]⟩), .body sts env, p, stk k l c₀ q q'⟩) := by
  refine byRow2 "special-get-raises" (P := fun w => segGo treeTable pw w 11 (some (.ref 6)) 1 7 ⟨H, gs, dr, T, os⟩ ⟨(pyHash (.str ⟨#[x]⟩ tk)).wrap K H' gd lv, .body sts env, p, stk k l c₀ q q'⟩ =
      some (⟨H, gs, dr, T + 1, os⟩, ⟨K (PyData.keyHash w.params ⟨#[x]⟩), .body sts env, p, stk k l c₀ q q'⟩)) (fun w => ?_) (fun w => ?_) w
  · kernel_rfl
  · kernel_rfl

section
variable {B : List Frame} {s : Shared} {c : Code} {a : Addr} {cl : Value} {dd : Option Addr} {sl : Array (Option Value)} {es : Array (Int × Value)} {n : Nat} {t : SetTable}
theorem ex_setState {Q : (Array (Int × Value) × Nat × SetTable) → Pos → Shared → Prop} (hB : (B.length == 1) = false) (ho : s.heap.get? a = some ⟨cl, dd, .set es n t, sl⟩) (hf : t.fits es.size = true) (h : Q (es, n, t) p s) :
    Ex w B c 1 (setState a) p s Q := by
  unfold setState
  refine Ex.bind (b := 1) (b' := 0) (Ex.load (b := 0) hB ho (Ex.pure ?_))
  dsimp only
  have hc : (t.place.size != es.size || decide (t.fill > t.mask)) = false := by
    simp only [SetTable.fits, Bool.and_eq_true, beq_iff_eq, decide_eq_true_eq] at hf
    simp [hf.1, Nat.not_lt.mpr hf.2]
  rw [hc]
  exact Ex.bind (b := 0) (b' := 0) (Ex.pure (Ex.pure h))
theorem ex_storeSet {Q : Unit → Pos → Shared → Prop} (es' : Array (Int × Value)) (t' : SetTable) (hB : (B.length == 1) = false) (hl : Nat.ble 11 a = true) (ho : s.heap.get? a = some ⟨cl, dd, .set es n t, sl⟩) (hz : es'.size ≤ sizeLine)
    (h : Q () p { s with heap := s.heap.update a (Obj.putSet es' t') }) : Ex w B c 2 (storeSet a es' t') p s Q := by
  unfold storeSet
  refine Ex.bind (b := 1) (b' := 1) (Ex.load (b := 0) hB ho (Ex.pure ?_))
  dsimp only
  rw [if_neg (Nat.not_lt.mpr hz)]
  exact Ex.bind (b := 0) (b' := 1) (Ex.pure (Ex.update (b := 0) hB hl (by rw [ho]; rfl) (Ex.pure h)))
end
/-- one element more -/
theorem add_run {sts : List Stmt} {env : Env} {xs : List Str} {es : Array (Int × Value)} {n : Nat} {t : SetTable} {a : Addr} {H : Data → Heap} {gs : Array GenState} {dr : Drawn} {T : Nat} {os : OsState}
    {Q : Bool → Pos → Shared → Prop} (x : Nat) (tk : Tok) (hl : Nat.ble 11 a = true)
    (hg : ∀ es n t, (H (.set es n t)).get? a = some ⟨.type "set", none, .set es n t, #[]⟩) (hu : ∀ es n t es' t', (H (.set es n t)).update a (Obj.putSet es' t') = H (.set es' (n + 1) t'))
    (g : Good w.params xs es t) (hx : (⟨#[x]⟩ : Str) ∉ xs) (hs : xs.length < 4000)
    (h : Q true p ⟨H (.set (addE w.params ⟨#[x]⟩ tk es n t).1 (addE w.params ⟨#[x]⟩ tk es n t).2.1 (addE w.params ⟨#[x]⟩ tk es n t).2.2), gs, dr, T + 1, os⟩) :
    Ex w (stk k l c₀ q q') (.body sts env) 20 (setAdd a (.str ⟨#[x]⟩ tk)) p ⟨H (.set es n t), gs, dr, T, os⟩ Q := by
  have e : setAdd a (.str ⟨#[x]⟩ tk) = (pyHash (.str ⟨#[x]⟩ tk) >>= fun h => setAddHashed a (.str ⟨#[x]⟩ tk) h) := rfl
  rw [e]
  refine Ex.mono (Q := Q) (b := 7 + 13) (Ex.bind (b := 7) (b' := 13) ?_) (Nat.le_refl _) (fun _ _ _ h => h)
  refine fun K H' gd lv => ⟨7, _, _, _, Nat.le_refl 7, hash_run x tk _ gs dr T os K H' gd lv, ?_⟩
  show Ex w _ _ 13 (setAddHashedIn a (.str ⟨#[x]⟩ tk) (PyData.keyHash w.params ⟨#[x]⟩) 100000) p _ Q
  have hz : es.size + 1 ≤ sizeLine := by rw [g.size, sizeLine_eq]; omega
  unfold setAddHashedIn
  refine Ex.mono (Q := Q) (b := 1 + 12) (Ex.bind (b := 1) (b' := 12) (ex_setState rfl (hg es n t) g.fits ?_)) (Nat.le_refl _) (fun _ _ _ h => h)
  dsimp only
  rw [if_pos (g.scan (by omega) _ _)]
  refine Ex.mono (Q := Q) (b := 12 + 0) (Ex.bind (b := 12) (b' := 0) ?_) (Nat.le_refl _) (fun _ _ _ h => h)
  unfold setAddByScan
  refine Ex.mono (b := 1 + 11) (Ex.bind (b := 1) (b' := 11) (Ex.rule (b := 0) rfl (Ex.pure ?_))) (Nat.le_refl _) (fun _ _ _ h => h)
  have hsc : setScan a (.str ⟨#[x]⟩ tk) (PyData.keyHash w.params ⟨#[x]⟩) true es = .pure .absent := by
    unfold setScan
    dsimp only
    rw [if_pos g.exact]
    unfold setScanStrs
    rw [g.absent hx]
    rfl
  rw [hsc]
  refine Ex.mono (b := 0 + 11) (Ex.bind (b := 0) (b' := 11) (Ex.pure ?_)) (Nat.le_refl _) (fun _ _ _ h => h)
  dsimp only
  have hgw : ∀ (b : Bool) {s₁ : Shared} {p₁ : Pos} {Q' : Unit → Pos → Shared → Prop}, Q' () p₁ s₁ → Ex w (stk k l c₀ q q') (.body sts env) 1 (match b with | true => rule "set.scan.the-table-gave-way" | false => Sem.pure ()) p₁ s₁ Q' :=
    fun b s₁ p₁ Q' hq => by
      cases b with
      | true => exact Ex.rule (b := 0) rfl (Ex.pure hq)
      | false => exact (Ex.pure hq).mono (Nat.zero_le 1) fun _ _ _ h => h
  have g1 := addT_good g ⟨#[x]⟩ tk
  have hE : addE w.params ⟨#[x]⟩ tk es n t = (if (!(addT w.params ⟨#[x]⟩ tk es t).2.2.1 && (addT w.params ⟨#[x]⟩ tk es t).2.1.tooFull) = true then
      ((relayAll (addT w.params ⟨#[x]⟩ tk es t).2.1 (addT w.params ⟨#[x]⟩ tk es t).1 (SetTable.grown (addT w.params ⟨#[x]⟩ tk es t).1.size)).1, n + 1 + 1, (relayAll (addT w.params ⟨#[x]⟩ tk es t).2.1 (addT w.params ⟨#[x]⟩ tk es t).1 (SetTable.grown (addT w.params ⟨#[x]⟩ tk es t).1.size)).2.1)
      else ((addT w.params ⟨#[x]⟩ tk es t).1, n + 1, (addT w.params ⟨#[x]⟩ tk es t).2.1)) := rfl
  rw [hE] at h
  have hT : addT w.params ⟨#[x]⟩ tk es t = ((layNew t es (PyData.keyHash w.params ⟨#[x]⟩) (.str ⟨#[x]⟩ tk)).1, (if (layNew t es (PyData.keyHash w.params ⟨#[x]⟩) (.str ⟨#[x]⟩ tk)).2.1.plain = true then { (layNew t es (PyData.keyHash w.params ⟨#[x]⟩) (.str ⟨#[x]⟩ tk)).2.1 with plain := false } else (layNew t es (PyData.keyHash w.params ⟨#[x]⟩) (.str ⟨#[x]⟩ tk)).2.1), (layNew t es (PyData.keyHash w.params ⟨#[x]⟩) (.str ⟨#[x]⟩ tk)).2.2) := rfl
  generalize addT w.params ⟨#[x]⟩ tk es t = L at h g1 hT
  obtain ⟨es1, t2, wd, gave⟩ := L
  generalize layNew t es (PyData.keyHash w.params ⟨#[x]⟩) (.str ⟨#[x]⟩ tk) = M at hT ⊢
  obtain ⟨es1', t1, wd', gave'⟩ := M
  simp only [Prod.mk.injEq] at hT
  obtain ⟨rfl, ht2, rfl, rfl⟩ := hT
  dsimp only at h g1 ⊢
  refine Ex.mono (b := 1 + 10) (Ex.bind (b := 1) (b' := 10) (hgw _ ?_)) (Nat.le_refl _) (fun _ _ _ h => h)
  have hz1 : es1.size ≤ sizeLine := by rw [g1.size, List.length_append, sizeLine_eq]; show xs.length + 1 ≤ _; omega
  have tail : ∀ tt, tt = t2 → Ex w (stk k l c₀ q q') (.body sts env) 10 (do
        storeSet a es1 tt
        if (!wd && tt.tooFull) = true then do
            (match (relayAll tt es1 (SetTable.grown es1.size)).2.2 with | true => rule "set.scan.the-table-gave-way" | false => Sem.pure ())
            storeSet a (relayAll tt es1 (SetTable.grown es1.size)).1 (relayAll tt es1 (SetTable.grown es1.size)).2.1
            Sem.pure (some true)
          else Sem.pure (some true)) p ⟨H (.set es n t), gs, dr, T + 1, os⟩ (fun r p' s' => Ex w (stk k l c₀ q q') (.body sts env) 0 (match r with | some added => (pure added : Sem Bool) | none => setAddHashedIn a (.str ⟨#[x]⟩ tk) (PyData.keyHash w.params ⟨#[x]⟩) 99999) p' s' Q) := by
    rintro tt rfl
    refine Ex.mono (b := 2 + 8) (Ex.bind (b := 2) (b' := 8) (ex_storeSet es1 tt rfl hl (hg es n t) hz1 ?_)) (Nat.le_refl _) (fun _ _ _ h => h)
    have e3 : ({ (⟨H (.set es n t), gs, dr, T + 1, os⟩ : Shared) with heap := (H (.set es n t)).update a (Obj.putSet es1 tt) } : Shared) = ⟨H (.set es1 (n + 1) tt), gs, dr, T + 1, os⟩ := by rw [hu]
    rw [e3]
    split
    · rename_i hc
      rw [if_pos hc] at h
      refine Ex.mono (b := 1 + 7) (Ex.bind (b := 1) (b' := 7) (hgw _ ?_)) (Nat.le_refl _) (fun _ _ _ h => h)
      have hp := relayAll_perm tt es1 (SetTable.grown es1.size)
      have hz2 : (relayAll tt es1 (SetTable.grown es1.size)).1.size ≤ sizeLine := by rw [← Array.length_toList, hp.length_eq, Array.length_toList]; exact hz1
      refine Ex.mono (b := 2 + 5) (Ex.bind (b := 2) (b' := 5) (ex_storeSet _ _ rfl hl (hg es1 (n + 1) tt) hz2 ?_)) (Nat.le_refl _) (fun _ _ _ h => h)
      have e4 : ({ (⟨H (.set es1 (n + 1) tt), gs, dr, T + 1, os⟩ : Shared) with heap := (H (.set es1 (n + 1) tt)).update a (Obj.putSet (relayAll tt es1 (SetTable.grown es1.size)).1 (relayAll tt es1 (SetTable.grown es1.size)).2.1) } : Shared) = ⟨H (.set (relayAll tt es1 (SetTable.grown es1.size)).1 (n + 1 + 1) (relayAll tt es1 (SetTable.grown es1.size)).2.1), gs, dr, T + 1, os⟩ := by rw [hu]
      rw [e4]
      exact (Ex.pure (Ex.pure h)).mono (Nat.zero_le _) fun _ _ _ h => h
    · rename_i hc
      rw [if_neg hc] at h
      exact (Ex.pure (Ex.pure h)).mono (Nat.zero_le _) fun _ _ _ h => h
  cases hpl : t1.plain with
  | true =>
    rw [hpl] at ht2
    have hby : hashByValue 8 (.str ⟨#[x]⟩ tk) = .pure false := rfl
    rw [if_pos rfl, hby]
    refine Ex.mono (b := 0 + 10) (Ex.bind (b := 0) (b' := 10) (Ex.pure ?_)) (Nat.le_refl _) (fun _ _ _ h => h)
    exact tail _ (ht2.trans (if_pos rfl)).symm
  | false =>
    rw [hpl] at ht2
    rw [if_neg Bool.false_ne_true]
    refine Ex.mono (b := 0 + 10) (Ex.bind (b := 0) (b' := 10) (Ex.pure ?_)) (Nat.le_refl _) (fun _ _ _ h => h)
    exact tail _ (ht2.trans (if_neg Bool.false_ne_true)).symm
end
end Mine
-- HeadC0
namespace Mine
open PySem PySem.W PySem.Calls PyProof.Rows

section
variable {w : World} {c : Code} {p q q' : Pos} {k : Result → Sem PySem.Fin} {l : List Value} {c₀ : Code}

noncomputable def addAll (P : Params) : List (Nat × Tok) → Array (Int × Value) → Nat → SetTable → Data
  | [], es, n, t => .set es (n + 1) { t with led := false }
  | x :: r, es, n, t => addAll P r (addE P ⟨#[x.1]⟩ x.2 es n t).1 (addE P ⟨#[x.1]⟩ x.2 es n t).2.1 (addE P ⟨#[x.1]⟩ x.2 es n t).2.2

noncomputable def strOf (x : Nat × Tok) : Str := ⟨#[x.1]⟩
noncomputable def valOf (x : Nat × Tok) : Value := .str ⟨#[x.1]⟩ x.2

/-- the display's loop, then the mark -/
theorem loop_run {sts : List Stmt} {env : Env} {a : Addr} {H : Data → Heap} {gs : Array GenState} {dr : Drawn} {os : OsState} {f : Value → PUnit → Sem (ForInStep PUnit)}
    (hl : Nat.ble 11 a = true) (hg : ∀ es n t, (H (.set es n t)).get? a = some ⟨.type "set", none, .set es n t, #[]⟩) (hu : ∀ es n t es' t', (H (.set es n t)).update a (Obj.putSet es' t') = H (.set es' (n + 1) t'))
    (hf : ∀ v, f v ⟨⟩ = (setAdd a v >>= fun _ => pure (.yield ⟨⟩))) :
    ∀ (xs : List (Nat × Tok)) (ys : List Str) (es : Array (Int × Value)) (n : Nat) (t : SetTable) (T : Nat) (Q : PUnit → Pos → Shared → Prop), Good w.params ys es t → (ys ++ xs.map strOf).Nodup → (ys ++ xs.map strOf).length < 4000 →
      (∀ es' n' t', Good w.params (ys ++ xs.map strOf) es' t' → addAll w.params xs es n t = .set es' (n' + 1) { t' with led := false } → Q ⟨⟩ p ⟨H (.set es' n' t'), gs, dr, T + xs.length, os⟩) →
      Ex w (stk k l c₀ q q') (.body sts env) (20 * xs.length) (forIn (xs.map valOf) PUnit.unit f) p ⟨H (.set es n t), gs, dr, T, os⟩ Q
  | [], ys, es, n, t, T, Q, g, _, _, h => by
    rw [List.map_nil, List.forIn_nil]
    exact Ex.pure (h es n t (by simpa using g) rfl)
  | x :: xs, ys, es, n, t, T, Q, g, hn, hs, h => by
    rw [List.map_cons, List.forIn_cons, hf]
    have hx : (⟨#[x.1]⟩ : Str) ∉ ys := by
      rw [List.map_cons, List.nodup_append] at hn
      intro hm
      exact hn.2.2 _ hm _ (.head _) rfl
    have hsz : ys.length < 4000 := by rw [List.length_append] at hs; omega
    refine Ex.mono (Q := Q) (b := 20 + 20 * xs.length) (Ex.bind (b := 20) (b' := 20 * xs.length) ?_) (by rw [List.length_cons]; omega) (fun _ _ _ h => h)
    refine Ex.mono (b := 20 + 0) (Ex.bind (b := 20) (b' := 0) (add_run x.1 x.2 hl hg hu g hx hsz (Ex.pure ?_))) (Nat.le_refl _) (fun _ _ _ h => h)
    dsimp only
    have g' := addE_good g ⟨#[x.1]⟩ x.2 n
    have e : ys ++ (x :: xs).map strOf = (ys ++ [⟨#[x.1]⟩]) ++ xs.map strOf := by rw [List.map_cons, List.append_assoc]; rfl
    refine loop_run hl hg hu hf xs (ys ++ [⟨#[x.1]⟩]) _ _ _ (T + 1) Q g' (by rw [← e]; exact hn) (by rw [← e]; exact hs) fun es' n' t' g2 h2 => ?_
    have h3 := h es' n' t' (by rw [e]; exact g2) h2
    rw [List.length_cons, show T + (xs.length + 1) = T + 1 + xs.length by omega] at h3
    exact h3

theorem star_consts {env : Env} : ∀ {elts : List PySem.Expr}, elts.all (fun e => match e with | .Constant .. => true | _ => false) = true → starEach elts env = (evalEach elts env).map fun t => (false, t)
  | [], _ => rfl
  | e :: r, h => by
    rw [List.all_cons, Bool.and_eq_true] at h
    have hs : starEach (e :: r) env = (false, eval e env) :: starEach r env := by
      cases e <;> first | rfl | exact absurd h.1 (by simp)
    rw [hs, star_consts h.2, arm_evalEach_cons, List.map_cons]

/-- a set display of strs, whole: from the statement's start to its end -/
theorem set_stmt {sts : List Stmt} {env : Env} {tgts : List PySem.Expr} {elts : List PySem.Expr} {pos apos : Pos} {a : Addr} {H : Data → Heap} {gs : Array GenState} {dr : Drawn} {os : OsState} {S0 : Shared} {T0 T1 T2 : Nat} {led : Bool} {N M : Nat}
    {SC : Data → Shared} {p2 : Pos} (xs : List (Nat × Tok))
    (hl : Nat.ble 11 a = true) (hg : ∀ es n t, (H (.set es n t)).get? a = some ⟨.type "set", none, .set es n t, #[]⟩) (hu : ∀ es n t es' t', (H (.set es n t)).update a (Obj.putSet es' t') = H (.set es' (n + 1) t'))
    (hc : elts.all (fun e => match e with | .Constant .. => true | _ => false) = true) (hlen : elts.length ≤ 30) (hroad : displayRoad 0 elts = .unsure)
    (hswap : swapsWithSole tgts (.Set elts 0 pos) apos.line env = pure false)
    (hmain : Ex w (stk k l c₀ q q') (.body sts env) 2 (inMainModule env) pos S0 (fun _ p' s' => p' = pos ∧ s' = S0))
    (hnew : Ex w (stk k l c₀ q q') (.body sts env) 2 (newSet (.type "set")) pos S0 (fun v p' s' => v = .ref a ∧ p' = pos ∧ s' = ⟨H (.set #[] 0 (.fresh 0 0 led)), gs, dr, T0, os⟩))
    (hall : ∀ d, Ex w (stk k l c₀ q q') (.body sts env) N (evalAll ((evalEach elts env).map fun t => do let v ← t; standAt pos; pure v)) pos ⟨H d, gs, dr, T0, os⟩ (fun vs p' s' => vs = xs.map valOf ∧ p' = pos ∧ s' = ⟨H d, gs, dr, T1, os⟩))
    (hn : (xs.map strOf).Nodup) (hxs : xs.length < 4000) (hT2 : T2 = T1 + xs.length)
    (hstore : ∀ d, Ex w (stk k l c₀ q q') (.body sts env) M (do assignStores env (.ref a) (← swappedStores tgts (.Set elts 0 pos) env) ((assignEach tgts env).map (·.2))) pos ⟨H d, gs, dr, T2, os⟩ (fun f p'' s' => f = .next ∧ p'' = p2 ∧ s' = SC d)) :
    Ex w (stk k l c₀ q q') (.body sts env) (10 + N + 20 * xs.length + M) (exec (.Assign tgts (.Set elts 0 pos) apos) env) p S0 (fun f p'' s' => f = .next ∧ p'' = p2 ∧ s' = SC (addAll w.params xs #[] 0 (.fresh 0 0 led))) := by
  rw [arm_exec_Assign]
  refine Ex.mono (b := 1 + (9 + N + 20 * xs.length + M)) (Ex.bind (b := 1) (b' := 9 + N + 20 * xs.length + M) (Ex.at (b := 0) rfl (Ex.pure ?_))) (by omega) (fun _ _ _ h => h)
  rw [hswap]
  refine Ex.mono (b := 0 + (9 + N + 20 * xs.length + M)) (Ex.bind (b := 0) (b' := 9 + N + 20 * xs.length + M) (Ex.pure ?_)) (by omega) (fun _ _ _ h => h)
  rw [if_neg Bool.false_ne_true]
  refine Ex.mono (b := (9 + N + 20 * xs.length) + M) (Ex.bind (b := 9 + N + 20 * xs.length) (b' := M) ?_) (by omega) (fun _ _ _ h => h)
  rw [arm_eval_Set]
  refine Ex.mono (b := 1 + (8 + N + 20 * xs.length)) (Ex.bind (b := 1) (b' := 8 + N + 20 * xs.length) (Ex.at (b := 0) rfl (Ex.pure ?_))) (by omega) (fun _ _ _ h => h)
  refine Ex.mono (b := 2 + (6 + N + 20 * xs.length)) (Ex.bind (b := 2) (b' := 6 + N + 20 * xs.length) (hmain.mono (Nat.le_refl 2) fun b p' s' hq => ?_)) (by omega) (fun _ _ _ h => h)
  obtain ⟨rfl, rfl⟩ := hq
  rw [hroad, star_consts hc, List.map_map]
  unfold setDisplay
  dsimp only
  rw [if_neg (by decide)]
  refine Ex.mono (b := 2 + (4 + N + 20 * xs.length)) (Ex.bind (b := 2) (b' := 4 + N + 20 * xs.length) (hnew.mono (Nat.le_refl 2) fun v p' s' hq => ?_)) (by omega) (fun _ _ _ h => h)
  obtain ⟨rfl, rfl, rfl⟩ := hq
  dsimp only
  have hE : (List.map ((fun x : Bool × Sem Value => (x.1, (do let v ← x.2; standAt p'; pure v : Sem Value))) ∘ fun t => (false, t)) (evalEach elts env)) = (evalEach elts env).map (fun t => (false, (do let v ← t; standAt p'; pure v : Sem Value))) := rfl
  rw [hE]
  have hL : ((evalEach elts env).map (fun t => (false, (do let v ← t; standAt p'; pure v : Sem Value)))).length = elts.length := by rw [List.length_map, kds_len]
  have hF : List.findIdx? (fun x : Bool × Sem Value => x.1) ((evalEach elts env).map (fun t => (false, (do let v ← t; standAt p'; pure v : Sem Value)))) = none := by
    rw [List.findIdx?_eq_none_iff]
    intro x hx
    obtain ⟨t, _, rfl⟩ := List.mem_map.mp hx
    rfl
  rw [hF, hL, if_neg (by omega)]
  dsimp only [Option.getD]
  rw [List.take_of_length_le (by rw [hL]; exact Nat.le_refl _), List.drop_eq_nil_of_le (by rw [hL]; exact Nat.le_refl _), List.map_map]
  refine Ex.mono (b := (4 + N + 20 * xs.length) + 0) (Ex.bind (b := 4 + N + 20 * xs.length) (b' := 0) (Ex.holding ?_)) (by omega) (fun _ _ _ h => h)
  refine Ex.mono (b := N + (4 + 20 * xs.length)) (Ex.bind (b := N) (b' := 4 + 20 * xs.length) ((hall _).mono (Nat.le_refl N) fun vs p' s' hq => ?_)) (by omega) (fun _ _ _ h => h)
  obtain ⟨rfl, rfl, rfl⟩ := hq
  refine Ex.mono (b := (4 + 20 * xs.length) + 0) (Ex.bind (b := 4 + 20 * xs.length) (b' := 0) (Ex.holding ?_)) (Nat.le_refl _) (fun _ _ _ h => h)
  have g0 : Good w.params [] #[] (.fresh 0 0 led) := ⟨fun e he => by simp at he, fun x hx => (nomatch hx), rfl, by cases led <;> rfl⟩
  refine Ex.mono (b := 20 * xs.length + 4) (Ex.bind (b := 20 * xs.length) (b' := 4) (loop_run hl hg hu (fun v => rfl) xs [] #[] 0 (.fresh 0 0 led) T1 _ g0 (by simpa using hn) (by simpa using hxs) fun es' n' t' g' ha => ?_)) (by omega) (fun _ _ _ h => h)
  rw [List.nil_append] at g'
  rw [if_pos (by decide)]
  refine Ex.mono (b := 1 + 3) (Ex.bind (b := 1) (b' := 3) (Ex.rule (b := 0) rfl (Ex.pure ?_))) (Nat.le_refl _) (fun _ _ _ h => h)
  unfold setUnled
  refine Ex.mono (b := 1 + 2) (Ex.bind (b := 1) (b' := 2) (ex_setState rfl (hg es' n' t') g'.fits ?_)) (Nat.le_refl _) (fun _ _ _ h => h)
  dsimp only
  have hz : es'.size ≤ sizeLine := by rw [g'.size, List.length_map, sizeLine_eq]; omega
  refine ex_storeSet es' _ rfl hl (hg es' n' t') hz ?_
  have e3 : ({ (⟨H (.set es' n' t'), gs, dr, T1 + xs.length, os⟩ : Shared) with heap := (H (.set es' n' t')).update a (Obj.putSet es' { t' with led := false }) } : Shared) = ⟨H (addAll w.params xs #[] 0 (.fresh 0 0 led)), gs, dr, T2, os⟩ := by rw [hu, ha, hT2]
  rw [e3, List.forIn_nil]
  exact Ex.bind (b := 0) (b' := 0) (Ex.pure (Ex.pure (Ex.pure (hstore _))))
end
end Mine
-- HeadC
namespace Mine
open PySem PySem.W PySem.Calls PyProof.Rows

noncomputable def en (P : Params) (x : String) (t : Tok) (v : Value) : DictEntry := ⟨PyData.keyHash P (Str.ofString x), .str (Str.ofString x) t, v⟩
noncomputable def top (i : Nat) : Stmt := (pw.main.body[i]?).getD (.Pass ⟨0, 0, 0, 0⟩)
noncomputable def inner (st : Stmt) : List Stmt := match st with | .ClassDef _ _ _ b _ _ _ _ _ _ _ => b | _ => []
noncomputable def meth (i j : Nat) : Stmt := ((inner (top i))[j]?).getD (.Pass ⟨0, 0, 0, 0⟩)
noncomputable def fnD (st : Stmt) (q : Str) (g : Addr) (pm code : Value) : Data := match st with
  | .FunctionDef n a b _ _ _ sc _ _ _ => .func { name := n, qualname := q, params := a, body := .stmts b, scope := sc, globals := g, closure := [], defaults := .none, kwdefaults := .none, pyModule := pm, code := code }
  | _ => .plain
abbrev lf (o : Obj) : BT := .node o .nil .nil
abbrev so (d : Data) : Obj := ⟨.type "set", none, d, #[]⟩
noncomputable def o2 (P : Params) : Obj := ⟨.none, none, (.dict #[] 0), #[]⟩
noncomputable def o3 (P : Params) : Obj := ⟨(.type "dict"), none, (.dict #[en P "__name__" 165 (.str (Str.ofString "__main__") 164), en P "__doc__" 166 .none, en P "__package__" 167 .none, en P "__loader__" 168 (.builtin "__main__.__loader__#opaque"), en P "__spec__" 169 .none, en P "__annotations__" 170 (.ref 6), en P "__builtins__" 171 (.ref 4), en P "__file__" 173 (.str (Str.ofString "/claim/cut.py") 172), en P "__cached__" 174 .none] 9), #[]⟩
noncomputable def o11 (P : Params) : Obj := ⟨(.type "tuple"), none, (.seq #[] 0), #[]⟩
noncomputable def o12 (P : Params) : Obj := ⟨.none, none, (.fields #[]), #[]⟩
noncomputable def o13 (P : Params) : Obj := ⟨(.type "code"), none, (.fields #[(.str (Str.ofString "<module>") 182), (.str (Str.ofString "<module>") 183), (.str (Str.ofString "/claim/cut.py") 184), (.int 1 0), (.int 0 0), (.int 0 0), (.int 0 0), (.int 0 0), (.ref 11), (.bool false), (.int 181 0), (.ref 12), .none, .none, .none, .none, (.int 185 0), (.int 1 0), (.str (Str.ofString "/claim/cut.py") 186)]), #[]⟩
noncomputable def o14 (P : Params) : Obj := ⟨(.type "frame"), none, .plain, #[some (.ref 13), some (.ref 3), some (.ref 3), none, some (.str (Str.ofString "__main__") 164), none, some (.ref 0)]⟩
noncomputable def Tb (P : Params) : BT := (.node (boot_o_0 P) (.node (boot_o_1 P) (.node (o3 P) (lf (boot_o_7 P)) (lf (o11 P))) (.node (boot_o_5 P) (lf (boot_o_9 P)) (lf (o13 P)))) (.node (o2 P) (.node (boot_o_4 P) (lf (boot_o_8 P)) (lf (o12 P))) (.node (boot_o_6 P) (lf (boot_o_10 P)) (lf (o14 P)))))
noncomputable def sb (P : Params) (T : Nat) (os : OsState) : SharedT := ⟨Tb P, 15, {}, #[], {}, T, os⟩
noncomputable def o3_1 (P : Params) : Obj := ⟨(.type "dict"), none, (.dict #[en P "__name__" 165 (.str (Str.ofString "snowballstemmer.swedish_stemmer") 459), en P "__doc__" 166 .none, en P "__package__" 167 .none, en P "__loader__" 168 (.builtin "__main__.__loader__#opaque"), en P "__spec__" 169 .none, en P "__annotations__" 170 (.ref 6), en P "__builtins__" 171 (.ref 4), en P "__file__" 173 (.str (Str.ofString "/claim/cut.py") 172), en P "__cached__" 174 .none, en P "_wall" 193 (.ref 21), en P "BaseStemmer" 423 (.ref 197), en P "Among" 458 (.ref 218)] 12), #[]⟩
noncomputable def o12_1 (P : Params) : Obj := ⟨.none, none, (.fields #[(.int 1 0), (.int 0 0), (.ref 20), (.int 5 0), (.int 0 0), (.ref 27), (.int 161 0), (.int 0 0), (.ref 207)]), #[]⟩
noncomputable def o15 (P : Params) : Obj := ⟨(.type "tuple"), none, (.seq #[] 0), #[]⟩
noncomputable def o16 (P : Params) : Obj := ⟨.none, none, (.fields #[]), #[]⟩
noncomputable def o17 (P : Params) : Obj := ⟨(.type "tuple"), none, (.seq #[(.str (Str.ofString "k") 190)] 0), #[]⟩
noncomputable def o18 (P : Params) : Obj := ⟨(.type "tuple"), none, (.seq #[] 0), #[]⟩
noncomputable def o19 (P : Params) : Obj := ⟨.none, none, (fnD (top 0) (Str.ofString "_wall") 0 .none .none), #[]⟩
noncomputable def o20 (P : Params) : Obj := ⟨(.type "code"), none, (.fields #[(.str (Str.ofString "_wall") 187), (.str (Str.ofString "_wall") 188), (.str (Str.ofString "/claim/cut.py") 189), (.int 1 0), (.int 1 0), (.int 0 0), (.int 0 0), (.int 3 0), (.ref 15), (.bool true), (.int 181 0), (.ref 16), .none, (.ref 17), (.ref 18), (.ref 19), (.int 191 0), (.int 1 0), (.str (Str.ofString "/claim/cut.py") 192)]), #[]⟩
noncomputable def o21 (P : Params) : Obj := ⟨(.type "function"), none, (fnD (top 0) (Str.ofString "_wall") 3 (.str (Str.ofString "__main__") 164) (.ref 20)), #[]⟩
noncomputable def o22 (P : Params) : Obj := ⟨(.type "tuple"), none, (.seq #[] 0), #[]⟩
noncomputable def o23 (P : Params) : Obj := ⟨(.type "builtin_function_or_method"), none, (.fields #[(.builtin "type.__prepare__"), (.type "type")]), #[]⟩
noncomputable def o24 (P : Params) : Obj := ⟨(.type "dict"), none, (.dict #[en P "__module__" 203 (.str (Str.ofString "snowballstemmer.basestemmer") 194), en P "__qualname__" 205 (.str (Str.ofString "BaseStemmer") 204), en P "__firstlineno__" 207 (.int 5 206), en P "__init__" 214 (.ref 35), en P "set_current" 222 (.ref 42), en P "get_current" 229 (.ref 49), en P "copy_from" 237 (.ref 56), en P "in_grouping" 245 (.ref 63), en P "go_in_grouping" 253 (.ref 70), en P "in_grouping_b" 261 (.ref 77), en P "go_in_grouping_b" 269 (.ref 84), en P "out_grouping" 277 (.ref 91), en P "go_out_grouping" 285 (.ref 98), en P "out_grouping_b" 293 (.ref 105), en P "go_out_grouping_b" 301 (.ref 112), en P "eq_s" 309 (.ref 119), en P "eq_s_b" 317 (.ref 126), en P "find_among" 325 (.ref 133), en P "find_among_b" 345 (.ref 140), en P "replace_s" 356 (.ref 147), en P "slice_from" 364 (.ref 154), en P "slice_del" 371 (.ref 161), en P "insert" 381 (.ref 168), en P "slice_to" 388 (.ref 175), en P "assign_to" 395 (.ref 182), en P "stemWord" 403 (.ref 189), en P "stemWords" 409 (.ref 194), en P "__static_attributes__" 416 (.ref 195)] 28), #[]⟩
noncomputable def o25 (P : Params) : Obj := ⟨(.type "tuple"), none, (.seq #[] 0), #[]⟩
noncomputable def o26 (P : Params) : Obj := ⟨.none, none, (.fields #[(.int 7 0), (.int 4 0), (.ref 34), (.int 10 0), (.int 4 0), (.ref 41), (.int 18 0), (.int 4 0), (.ref 48), (.int 21 0), (.int 4 0), (.ref 55), (.int 24 0), (.int 4 0), (.ref 62), (.int 27 0), (.int 4 0), (.ref 69), (.int 34 0), (.int 4 0), (.ref 76), (.int 42 0), (.int 4 0), (.ref 83), (.int 45 0), (.int 4 0), (.ref 90), (.int 48 0), (.int 4 0), (.ref 97), (.int 55 0), (.int 4 0), (.ref 104), (.int 63 0), (.int 4 0), (.ref 111), (.int 66 0), (.int 4 0), (.ref 118), (.int 69 0), (.int 4 0), (.ref 125), (.int 75 0), (.int 4 0), (.ref 132), (.int 78 0), (.int 4 0), (.ref 139), (.int 123 0), (.int 4 0), (.ref 146), (.int 133 0), (.int 4 0), (.ref 153), (.int 141 0), (.int 4 0), (.ref 160), (.int 144 0), (.int 4 0), (.ref 167), (.int 147 0), (.int 4 0), (.ref 174), (.int 150 0), (.int 4 0), (.ref 181), (.int 153 0), (.int 4 0), (.ref 188), (.int 158 0), (.int 4 0), (.ref 193)]), #[]⟩
noncomputable def o27 (P : Params) : Obj := ⟨(.type "code"), none, (.fields #[(.str (Str.ofString "BaseStemmer") 198), (.str (Str.ofString "BaseStemmer") 199), (.str (Str.ofString "/claim/cut.py") 200), (.int 5 0), (.int 0 0), (.int 0 0), (.int 0 0), (.int 0 0), (.ref 25), (.bool false), (.int 181 0), (.ref 26), .none, .none, .none, .none, (.int 201 0), (.int 5 0), (.str (Str.ofString "/claim/cut.py") 202)]), #[]⟩
noncomputable def o28 (P : Params) : Obj := ⟨(.type "frame"), none, .plain, #[some (.ref 27), some (.ref 3), some (.ref 24), none, some (.str (Str.ofString "snowballstemmer.basestemmer") 194), none, some (.ref 0)]⟩
noncomputable def o29 (P : Params) : Obj := ⟨(.type "tuple"), none, (.seq #[] 0), #[]⟩
noncomputable def o30 (P : Params) : Obj := ⟨.none, none, (.fields #[]), #[]⟩
noncomputable def o31 (P : Params) : Obj := ⟨(.type "tuple"), none, (.seq #[(.str (Str.ofString "self") 211)] 0), #[]⟩
noncomputable def o32 (P : Params) : Obj := ⟨(.type "tuple"), none, (.seq #[] 0), #[]⟩
noncomputable def o33 (P : Params) : Obj := ⟨.none, none, (fnD (meth 2 0) (Str.ofString "BaseStemmer.__init__") 0 .none .none), #[]⟩
noncomputable def o34 (P : Params) : Obj := ⟨(.type "code"), none, (.fields #[(.str (Str.ofString "__init__") 208), (.str (Str.ofString "BaseStemmer.__init__") 209), (.str (Str.ofString "/claim/cut.py") 210), (.int 7 0), (.int 1 0), (.int 0 0), (.int 0 0), (.int 3 0), (.ref 29), (.bool true), (.int 181 0), (.ref 30), .none, (.ref 31), (.ref 32), (.ref 33), (.int 212 0), (.int 7 0), (.str (Str.ofString "/claim/cut.py") 213)]), #[]⟩
noncomputable def o35 (P : Params) : Obj := ⟨(.type "function"), none, (fnD (meth 2 0) (Str.ofString "BaseStemmer.__init__") 3 (.str (Str.ofString "snowballstemmer.basestemmer") 194) (.ref 34)), #[]⟩
noncomputable def o36 (P : Params) : Obj := ⟨(.type "tuple"), none, (.seq #[] 0), #[]⟩
noncomputable def o37 (P : Params) : Obj := ⟨.none, none, (.fields #[]), #[]⟩
noncomputable def o38 (P : Params) : Obj := ⟨(.type "tuple"), none, (.seq #[(.str (Str.ofString "self") 218), (.str (Str.ofString "value") 219)] 0), #[]⟩
noncomputable def o39 (P : Params) : Obj := ⟨(.type "tuple"), none, (.seq #[] 0), #[]⟩
noncomputable def o40 (P : Params) : Obj := ⟨.none, none, (fnD (meth 2 1) (Str.ofString "BaseStemmer.set_current") 0 .none .none), #[]⟩
noncomputable def o41 (P : Params) : Obj := ⟨(.type "code"), none, (.fields #[(.str (Str.ofString "set_current") 215), (.str (Str.ofString "BaseStemmer.set_current") 216), (.str (Str.ofString "/claim/cut.py") 217), (.int 10 0), (.int 2 0), (.int 0 0), (.int 0 0), (.int 3 0), (.ref 36), (.bool true), (.int 181 0), (.ref 37), .none, (.ref 38), (.ref 39), (.ref 40), (.int 220 0), (.int 10 0), (.str (Str.ofString "/claim/cut.py") 221)]), #[]⟩
noncomputable def o42 (P : Params) : Obj := ⟨(.type "function"), none, (fnD (meth 2 1) (Str.ofString "BaseStemmer.set_current") 3 (.str (Str.ofString "snowballstemmer.basestemmer") 194) (.ref 41)), #[]⟩
noncomputable def o43 (P : Params) : Obj := ⟨(.type "tuple"), none, (.seq #[] 0), #[]⟩
noncomputable def o44 (P : Params) : Obj := ⟨.none, none, (.fields #[]), #[]⟩
noncomputable def o45 (P : Params) : Obj := ⟨(.type "tuple"), none, (.seq #[(.str (Str.ofString "self") 226)] 0), #[]⟩
noncomputable def o46 (P : Params) : Obj := ⟨(.type "tuple"), none, (.seq #[] 0), #[]⟩
noncomputable def o47 (P : Params) : Obj := ⟨.none, none, (fnD (meth 2 2) (Str.ofString "BaseStemmer.get_current") 0 .none .none), #[]⟩
noncomputable def o48 (P : Params) : Obj := ⟨(.type "code"), none, (.fields #[(.str (Str.ofString "get_current") 223), (.str (Str.ofString "BaseStemmer.get_current") 224), (.str (Str.ofString "/claim/cut.py") 225), (.int 18 0), (.int 1 0), (.int 0 0), (.int 0 0), (.int 3 0), (.ref 43), (.bool true), (.int 181 0), (.ref 44), .none, (.ref 45), (.ref 46), (.ref 47), (.int 227 0), (.int 18 0), (.str (Str.ofString "/claim/cut.py") 228)]), #[]⟩
noncomputable def o49 (P : Params) : Obj := ⟨(.type "function"), none, (fnD (meth 2 2) (Str.ofString "BaseStemmer.get_current") 3 (.str (Str.ofString "snowballstemmer.basestemmer") 194) (.ref 48)), #[]⟩
noncomputable def o50 (P : Params) : Obj := ⟨(.type "tuple"), none, (.seq #[] 0), #[]⟩
noncomputable def o51 (P : Params) : Obj := ⟨.none, none, (.fields #[]), #[]⟩
noncomputable def o52 (P : Params) : Obj := ⟨(.type "tuple"), none, (.seq #[(.str (Str.ofString "self") 233), (.str (Str.ofString "other") 234)] 0), #[]⟩
noncomputable def o53 (P : Params) : Obj := ⟨(.type "tuple"), none, (.seq #[] 0), #[]⟩
noncomputable def o54 (P : Params) : Obj := ⟨.none, none, (fnD (meth 2 3) (Str.ofString "BaseStemmer.copy_from") 0 .none .none), #[]⟩
noncomputable def o55 (P : Params) : Obj := ⟨(.type "code"), none, (.fields #[(.str (Str.ofString "copy_from") 230), (.str (Str.ofString "BaseStemmer.copy_from") 231), (.str (Str.ofString "/claim/cut.py") 232), (.int 21 0), (.int 2 0), (.int 0 0), (.int 0 0), (.int 3 0), (.ref 50), (.bool true), (.int 181 0), (.ref 51), .none, (.ref 52), (.ref 53), (.ref 54), (.int 235 0), (.int 21 0), (.str (Str.ofString "/claim/cut.py") 236)]), #[]⟩
noncomputable def o56 (P : Params) : Obj := ⟨(.type "function"), none, (fnD (meth 2 3) (Str.ofString "BaseStemmer.copy_from") 3 (.str (Str.ofString "snowballstemmer.basestemmer") 194) (.ref 55)), #[]⟩
noncomputable def o57 (P : Params) : Obj := ⟨(.type "tuple"), none, (.seq #[] 0), #[]⟩
noncomputable def o58 (P : Params) : Obj := ⟨.none, none, (.fields #[]), #[]⟩
noncomputable def o59 (P : Params) : Obj := ⟨(.type "tuple"), none, (.seq #[(.str (Str.ofString "self") 241), (.str (Str.ofString "s") 242)] 0), #[]⟩
noncomputable def o60 (P : Params) : Obj := ⟨(.type "tuple"), none, (.seq #[] 0), #[]⟩
noncomputable def o61 (P : Params) : Obj := ⟨.none, none, (fnD (meth 2 4) (Str.ofString "BaseStemmer.in_grouping") 0 .none .none), #[]⟩
noncomputable def o62 (P : Params) : Obj := ⟨(.type "code"), none, (.fields #[(.str (Str.ofString "in_grouping") 238), (.str (Str.ofString "BaseStemmer.in_grouping") 239), (.str (Str.ofString "/claim/cut.py") 240), (.int 24 0), (.int 2 0), (.int 0 0), (.int 0 0), (.int 3 0), (.ref 57), (.bool true), (.int 181 0), (.ref 58), .none, (.ref 59), (.ref 60), (.ref 61), (.int 243 0), (.int 24 0), (.str (Str.ofString "/claim/cut.py") 244)]), #[]⟩
noncomputable def o63 (P : Params) : Obj := ⟨(.type "function"), none, (fnD (meth 2 4) (Str.ofString "BaseStemmer.in_grouping") 3 (.str (Str.ofString "snowballstemmer.basestemmer") 194) (.ref 62)), #[]⟩
noncomputable def o64 (P : Params) : Obj := ⟨(.type "tuple"), none, (.seq #[] 0), #[]⟩
noncomputable def o65 (P : Params) : Obj := ⟨.none, none, (.fields #[]), #[]⟩
noncomputable def o66 (P : Params) : Obj := ⟨(.type "tuple"), none, (.seq #[(.str (Str.ofString "self") 249), (.str (Str.ofString "s") 250)] 0), #[]⟩
noncomputable def o67 (P : Params) : Obj := ⟨(.type "tuple"), none, (.seq #[] 0), #[]⟩
noncomputable def o68 (P : Params) : Obj := ⟨.none, none, (fnD (meth 2 5) (Str.ofString "BaseStemmer.go_in_grouping") 0 .none .none), #[]⟩
noncomputable def o69 (P : Params) : Obj := ⟨(.type "code"), none, (.fields #[(.str (Str.ofString "go_in_grouping") 246), (.str (Str.ofString "BaseStemmer.go_in_grouping") 247), (.str (Str.ofString "/claim/cut.py") 248), (.int 27 0), (.int 2 0), (.int 0 0), (.int 0 0), (.int 3 0), (.ref 64), (.bool true), (.int 181 0), (.ref 65), .none, (.ref 66), (.ref 67), (.ref 68), (.int 251 0), (.int 27 0), (.str (Str.ofString "/claim/cut.py") 252)]), #[]⟩
noncomputable def o70 (P : Params) : Obj := ⟨(.type "function"), none, (fnD (meth 2 5) (Str.ofString "BaseStemmer.go_in_grouping") 3 (.str (Str.ofString "snowballstemmer.basestemmer") 194) (.ref 69)), #[]⟩
noncomputable def o71 (P : Params) : Obj := ⟨(.type "tuple"), none, (.seq #[] 0), #[]⟩
noncomputable def o72 (P : Params) : Obj := ⟨.none, none, (.fields #[]), #[]⟩
noncomputable def o73 (P : Params) : Obj := ⟨(.type "tuple"), none, (.seq #[(.str (Str.ofString "self") 257), (.str (Str.ofString "s") 258)] 0), #[]⟩
noncomputable def o74 (P : Params) : Obj := ⟨(.type "tuple"), none, (.seq #[] 0), #[]⟩
noncomputable def o75 (P : Params) : Obj := ⟨.none, none, (fnD (meth 2 6) (Str.ofString "BaseStemmer.in_grouping_b") 0 .none .none), #[]⟩
noncomputable def o76 (P : Params) : Obj := ⟨(.type "code"), none, (.fields #[(.str (Str.ofString "in_grouping_b") 254), (.str (Str.ofString "BaseStemmer.in_grouping_b") 255), (.str (Str.ofString "/claim/cut.py") 256), (.int 34 0), (.int 2 0), (.int 0 0), (.int 0 0), (.int 3 0), (.ref 71), (.bool true), (.int 181 0), (.ref 72), .none, (.ref 73), (.ref 74), (.ref 75), (.int 259 0), (.int 34 0), (.str (Str.ofString "/claim/cut.py") 260)]), #[]⟩
noncomputable def o77 (P : Params) : Obj := ⟨(.type "function"), none, (fnD (meth 2 6) (Str.ofString "BaseStemmer.in_grouping_b") 3 (.str (Str.ofString "snowballstemmer.basestemmer") 194) (.ref 76)), #[]⟩
noncomputable def o78 (P : Params) : Obj := ⟨(.type "tuple"), none, (.seq #[] 0), #[]⟩
noncomputable def o79 (P : Params) : Obj := ⟨.none, none, (.fields #[]), #[]⟩
noncomputable def o80 (P : Params) : Obj := ⟨(.type "tuple"), none, (.seq #[(.str (Str.ofString "self") 265), (.str (Str.ofString "s") 266)] 0), #[]⟩
noncomputable def o81 (P : Params) : Obj := ⟨(.type "tuple"), none, (.seq #[] 0), #[]⟩
noncomputable def o82 (P : Params) : Obj := ⟨.none, none, (fnD (meth 2 7) (Str.ofString "BaseStemmer.go_in_grouping_b") 0 .none .none), #[]⟩
noncomputable def o83 (P : Params) : Obj := ⟨(.type "code"), none, (.fields #[(.str (Str.ofString "go_in_grouping_b") 262), (.str (Str.ofString "BaseStemmer.go_in_grouping_b") 263), (.str (Str.ofString "/claim/cut.py") 264), (.int 42 0), (.int 2 0), (.int 0 0), (.int 0 0), (.int 3 0), (.ref 78), (.bool true), (.int 181 0), (.ref 79), .none, (.ref 80), (.ref 81), (.ref 82), (.int 267 0), (.int 42 0), (.str (Str.ofString "/claim/cut.py") 268)]), #[]⟩
noncomputable def o84 (P : Params) : Obj := ⟨(.type "function"), none, (fnD (meth 2 7) (Str.ofString "BaseStemmer.go_in_grouping_b") 3 (.str (Str.ofString "snowballstemmer.basestemmer") 194) (.ref 83)), #[]⟩
noncomputable def o85 (P : Params) : Obj := ⟨(.type "tuple"), none, (.seq #[] 0), #[]⟩
noncomputable def o86 (P : Params) : Obj := ⟨.none, none, (.fields #[]), #[]⟩
noncomputable def o87 (P : Params) : Obj := ⟨(.type "tuple"), none, (.seq #[(.str (Str.ofString "self") 273), (.str (Str.ofString "s") 274)] 0), #[]⟩
noncomputable def o88 (P : Params) : Obj := ⟨(.type "tuple"), none, (.seq #[] 0), #[]⟩
noncomputable def o89 (P : Params) : Obj := ⟨.none, none, (fnD (meth 2 8) (Str.ofString "BaseStemmer.out_grouping") 0 .none .none), #[]⟩
noncomputable def o90 (P : Params) : Obj := ⟨(.type "code"), none, (.fields #[(.str (Str.ofString "out_grouping") 270), (.str (Str.ofString "BaseStemmer.out_grouping") 271), (.str (Str.ofString "/claim/cut.py") 272), (.int 45 0), (.int 2 0), (.int 0 0), (.int 0 0), (.int 3 0), (.ref 85), (.bool true), (.int 181 0), (.ref 86), .none, (.ref 87), (.ref 88), (.ref 89), (.int 275 0), (.int 45 0), (.str (Str.ofString "/claim/cut.py") 276)]), #[]⟩
noncomputable def o91 (P : Params) : Obj := ⟨(.type "function"), none, (fnD (meth 2 8) (Str.ofString "BaseStemmer.out_grouping") 3 (.str (Str.ofString "snowballstemmer.basestemmer") 194) (.ref 90)), #[]⟩
noncomputable def o92 (P : Params) : Obj := ⟨(.type "tuple"), none, (.seq #[] 0), #[]⟩
noncomputable def o93 (P : Params) : Obj := ⟨.none, none, (.fields #[]), #[]⟩
noncomputable def o94 (P : Params) : Obj := ⟨(.type "tuple"), none, (.seq #[(.str (Str.ofString "self") 281), (.str (Str.ofString "s") 282)] 0), #[]⟩
noncomputable def o95 (P : Params) : Obj := ⟨(.type "tuple"), none, (.seq #[] 0), #[]⟩
noncomputable def o96 (P : Params) : Obj := ⟨.none, none, (fnD (meth 2 9) (Str.ofString "BaseStemmer.go_out_grouping") 0 .none .none), #[]⟩
noncomputable def o97 (P : Params) : Obj := ⟨(.type "code"), none, (.fields #[(.str (Str.ofString "go_out_grouping") 278), (.str (Str.ofString "BaseStemmer.go_out_grouping") 279), (.str (Str.ofString "/claim/cut.py") 280), (.int 48 0), (.int 2 0), (.int 0 0), (.int 0 0), (.int 3 0), (.ref 92), (.bool true), (.int 181 0), (.ref 93), .none, (.ref 94), (.ref 95), (.ref 96), (.int 283 0), (.int 48 0), (.str (Str.ofString "/claim/cut.py") 284)]), #[]⟩
noncomputable def o98 (P : Params) : Obj := ⟨(.type "function"), none, (fnD (meth 2 9) (Str.ofString "BaseStemmer.go_out_grouping") 3 (.str (Str.ofString "snowballstemmer.basestemmer") 194) (.ref 97)), #[]⟩
noncomputable def o99 (P : Params) : Obj := ⟨(.type "tuple"), none, (.seq #[] 0), #[]⟩
noncomputable def o100 (P : Params) : Obj := ⟨.none, none, (.fields #[]), #[]⟩
noncomputable def o101 (P : Params) : Obj := ⟨(.type "tuple"), none, (.seq #[(.str (Str.ofString "self") 289), (.str (Str.ofString "s") 290)] 0), #[]⟩
noncomputable def o102 (P : Params) : Obj := ⟨(.type "tuple"), none, (.seq #[] 0), #[]⟩
noncomputable def o103 (P : Params) : Obj := ⟨.none, none, (fnD (meth 2 10) (Str.ofString "BaseStemmer.out_grouping_b") 0 .none .none), #[]⟩
noncomputable def o104 (P : Params) : Obj := ⟨(.type "code"), none, (.fields #[(.str (Str.ofString "out_grouping_b") 286), (.str (Str.ofString "BaseStemmer.out_grouping_b") 287), (.str (Str.ofString "/claim/cut.py") 288), (.int 55 0), (.int 2 0), (.int 0 0), (.int 0 0), (.int 3 0), (.ref 99), (.bool true), (.int 181 0), (.ref 100), .none, (.ref 101), (.ref 102), (.ref 103), (.int 291 0), (.int 55 0), (.str (Str.ofString "/claim/cut.py") 292)]), #[]⟩
noncomputable def o105 (P : Params) : Obj := ⟨(.type "function"), none, (fnD (meth 2 10) (Str.ofString "BaseStemmer.out_grouping_b") 3 (.str (Str.ofString "snowballstemmer.basestemmer") 194) (.ref 104)), #[]⟩
noncomputable def o106 (P : Params) : Obj := ⟨(.type "tuple"), none, (.seq #[] 0), #[]⟩
noncomputable def o107 (P : Params) : Obj := ⟨.none, none, (.fields #[]), #[]⟩
noncomputable def o108 (P : Params) : Obj := ⟨(.type "tuple"), none, (.seq #[(.str (Str.ofString "self") 297), (.str (Str.ofString "s") 298)] 0), #[]⟩
noncomputable def o109 (P : Params) : Obj := ⟨(.type "tuple"), none, (.seq #[] 0), #[]⟩
noncomputable def o110 (P : Params) : Obj := ⟨.none, none, (fnD (meth 2 11) (Str.ofString "BaseStemmer.go_out_grouping_b") 0 .none .none), #[]⟩
noncomputable def o111 (P : Params) : Obj := ⟨(.type "code"), none, (.fields #[(.str (Str.ofString "go_out_grouping_b") 294), (.str (Str.ofString "BaseStemmer.go_out_grouping_b") 295), (.str (Str.ofString "/claim/cut.py") 296), (.int 63 0), (.int 2 0), (.int 0 0), (.int 0 0), (.int 3 0), (.ref 106), (.bool true), (.int 181 0), (.ref 107), .none, (.ref 108), (.ref 109), (.ref 110), (.int 299 0), (.int 63 0), (.str (Str.ofString "/claim/cut.py") 300)]), #[]⟩
noncomputable def o112 (P : Params) : Obj := ⟨(.type "function"), none, (fnD (meth 2 11) (Str.ofString "BaseStemmer.go_out_grouping_b") 3 (.str (Str.ofString "snowballstemmer.basestemmer") 194) (.ref 111)), #[]⟩
noncomputable def o113 (P : Params) : Obj := ⟨(.type "tuple"), none, (.seq #[] 0), #[]⟩
noncomputable def o114 (P : Params) : Obj := ⟨.none, none, (.fields #[]), #[]⟩
noncomputable def o115 (P : Params) : Obj := ⟨(.type "tuple"), none, (.seq #[(.str (Str.ofString "self") 305), (.str (Str.ofString "s") 306)] 0), #[]⟩
noncomputable def o116 (P : Params) : Obj := ⟨(.type "tuple"), none, (.seq #[] 0), #[]⟩
noncomputable def o117 (P : Params) : Obj := ⟨.none, none, (fnD (meth 2 12) (Str.ofString "BaseStemmer.eq_s") 0 .none .none), #[]⟩
noncomputable def o118 (P : Params) : Obj := ⟨(.type "code"), none, (.fields #[(.str (Str.ofString "eq_s") 302), (.str (Str.ofString "BaseStemmer.eq_s") 303), (.str (Str.ofString "/claim/cut.py") 304), (.int 66 0), (.int 2 0), (.int 0 0), (.int 0 0), (.int 3 0), (.ref 113), (.bool true), (.int 181 0), (.ref 114), .none, (.ref 115), (.ref 116), (.ref 117), (.int 307 0), (.int 66 0), (.str (Str.ofString "/claim/cut.py") 308)]), #[]⟩
noncomputable def o119 (P : Params) : Obj := ⟨(.type "function"), none, (fnD (meth 2 12) (Str.ofString "BaseStemmer.eq_s") 3 (.str (Str.ofString "snowballstemmer.basestemmer") 194) (.ref 118)), #[]⟩
noncomputable def o120 (P : Params) : Obj := ⟨(.type "tuple"), none, (.seq #[] 0), #[]⟩
noncomputable def o121 (P : Params) : Obj := ⟨.none, none, (.fields #[]), #[]⟩
noncomputable def o122 (P : Params) : Obj := ⟨(.type "tuple"), none, (.seq #[(.str (Str.ofString "self") 313), (.str (Str.ofString "s") 314)] 0), #[]⟩
noncomputable def o123 (P : Params) : Obj := ⟨(.type "tuple"), none, (.seq #[] 0), #[]⟩
noncomputable def o124 (P : Params) : Obj := ⟨.none, none, (fnD (meth 2 13) (Str.ofString "BaseStemmer.eq_s_b") 0 .none .none), #[]⟩
noncomputable def o125 (P : Params) : Obj := ⟨(.type "code"), none, (.fields #[(.str (Str.ofString "eq_s_b") 310), (.str (Str.ofString "BaseStemmer.eq_s_b") 311), (.str (Str.ofString "/claim/cut.py") 312), (.int 69 0), (.int 2 0), (.int 0 0), (.int 0 0), (.int 3 0), (.ref 120), (.bool true), (.int 181 0), (.ref 121), .none, (.ref 122), (.ref 123), (.ref 124), (.int 315 0), (.int 69 0), (.str (Str.ofString "/claim/cut.py") 316)]), #[]⟩
noncomputable def o126 (P : Params) : Obj := ⟨(.type "function"), none, (fnD (meth 2 13) (Str.ofString "BaseStemmer.eq_s_b") 3 (.str (Str.ofString "snowballstemmer.basestemmer") 194) (.ref 125)), #[]⟩
noncomputable def o127 (P : Params) : Obj := ⟨(.type "tuple"), none, (.seq #[] 0), #[]⟩
noncomputable def o128 (P : Params) : Obj := ⟨.none, none, (.fields #[]), #[]⟩
noncomputable def o129 (P : Params) : Obj := ⟨(.type "tuple"), none, (.seq #[(.str (Str.ofString "self") 321), (.str (Str.ofString "v") 322)] 0), #[]⟩
noncomputable def o130 (P : Params) : Obj := ⟨(.type "tuple"), none, (.seq #[] 0), #[]⟩
noncomputable def o131 (P : Params) : Obj := ⟨.none, none, (fnD (meth 2 14) (Str.ofString "BaseStemmer.find_among") 0 .none .none), #[]⟩
noncomputable def o132 (P : Params) : Obj := ⟨(.type "code"), none, (.fields #[(.str (Str.ofString "find_among") 318), (.str (Str.ofString "BaseStemmer.find_among") 319), (.str (Str.ofString "/claim/cut.py") 320), (.int 75 0), (.int 2 0), (.int 0 0), (.int 0 0), (.int 3 0), (.ref 127), (.bool true), (.int 181 0), (.ref 128), .none, (.ref 129), (.ref 130), (.ref 131), (.int 323 0), (.int 75 0), (.str (Str.ofString "/claim/cut.py") 324)]), #[]⟩
noncomputable def o133 (P : Params) : Obj := ⟨(.type "function"), none, (fnD (meth 2 14) (Str.ofString "BaseStemmer.find_among") 3 (.str (Str.ofString "snowballstemmer.basestemmer") 194) (.ref 132)), #[]⟩
noncomputable def o134 (P : Params) : Obj := ⟨(.type "tuple"), none, (.seq #[] 0), #[]⟩
noncomputable def o135 (P : Params) : Obj := ⟨.none, none, (.fields #[]), #[]⟩
noncomputable def o136 (P : Params) : Obj := ⟨(.type "tuple"), none, (.seq #[(.str (Str.ofString "self") 329), (.str (Str.ofString "v") 330), (.str (Str.ofString "i") 331), (.str (Str.ofString "j") 332), (.str (Str.ofString "c") 333), (.str (Str.ofString "lb") 334), (.str (Str.ofString "common_i") 335), (.str (Str.ofString "common_j") 336), (.str (Str.ofString "first_key_inspected") 337), (.str (Str.ofString "k") 338), (.str (Str.ofString "diff") 339), (.str (Str.ofString "common") 340), (.str (Str.ofString "w") 341), (.str (Str.ofString "i2") 342)] 0), #[]⟩
noncomputable def o137 (P : Params) : Obj := ⟨(.type "tuple"), none, (.seq #[] 0), #[]⟩
noncomputable def o138 (P : Params) : Obj := ⟨.none, none, (fnD (meth 2 15) (Str.ofString "BaseStemmer.find_among_b") 0 .none .none), #[]⟩
noncomputable def o139 (P : Params) : Obj := ⟨(.type "code"), none, (.fields #[(.str (Str.ofString "find_among_b") 326), (.str (Str.ofString "BaseStemmer.find_among_b") 327), (.str (Str.ofString "/claim/cut.py") 328), (.int 78 0), (.int 2 0), (.int 0 0), (.int 0 0), (.int 3 0), (.ref 134), (.bool true), (.int 181 0), (.ref 135), .none, (.ref 136), (.ref 137), (.ref 138), (.int 343 0), (.int 78 0), (.str (Str.ofString "/claim/cut.py") 344)]), #[]⟩
noncomputable def o140 (P : Params) : Obj := ⟨(.type "function"), none, (fnD (meth 2 15) (Str.ofString "BaseStemmer.find_among_b") 3 (.str (Str.ofString "snowballstemmer.basestemmer") 194) (.ref 139)), #[]⟩
noncomputable def o141 (P : Params) : Obj := ⟨(.type "tuple"), none, (.seq #[] 0), #[]⟩
noncomputable def o142 (P : Params) : Obj := ⟨.none, none, (.fields #[]), #[]⟩
noncomputable def o143 (P : Params) : Obj := ⟨(.type "tuple"), none, (.seq #[(.str (Str.ofString "self") 349), (.str (Str.ofString "c_bra") 350), (.str (Str.ofString "c_ket") 351), (.str (Str.ofString "s") 352), (.str (Str.ofString "adjustment") 353)] 0), #[]⟩
noncomputable def o144 (P : Params) : Obj := ⟨(.type "tuple"), none, (.seq #[] 0), #[]⟩
noncomputable def o145 (P : Params) : Obj := ⟨.none, none, (fnD (meth 2 16) (Str.ofString "BaseStemmer.replace_s") 0 .none .none), #[]⟩
noncomputable def o146 (P : Params) : Obj := ⟨(.type "code"), none, (.fields #[(.str (Str.ofString "replace_s") 346), (.str (Str.ofString "BaseStemmer.replace_s") 347), (.str (Str.ofString "/claim/cut.py") 348), (.int 123 0), (.int 4 0), (.int 0 0), (.int 0 0), (.int 3 0), (.ref 141), (.bool true), (.int 181 0), (.ref 142), .none, (.ref 143), (.ref 144), (.ref 145), (.int 354 0), (.int 123 0), (.str (Str.ofString "/claim/cut.py") 355)]), #[]⟩
noncomputable def o147 (P : Params) : Obj := ⟨(.type "function"), none, (fnD (meth 2 16) (Str.ofString "BaseStemmer.replace_s") 3 (.str (Str.ofString "snowballstemmer.basestemmer") 194) (.ref 146)), #[]⟩
noncomputable def o148 (P : Params) : Obj := ⟨(.type "tuple"), none, (.seq #[] 0), #[]⟩
noncomputable def o149 (P : Params) : Obj := ⟨.none, none, (.fields #[]), #[]⟩
noncomputable def o150 (P : Params) : Obj := ⟨(.type "tuple"), none, (.seq #[(.str (Str.ofString "self") 360), (.str (Str.ofString "s") 361)] 0), #[]⟩
noncomputable def o151 (P : Params) : Obj := ⟨(.type "tuple"), none, (.seq #[] 0), #[]⟩
noncomputable def o152 (P : Params) : Obj := ⟨.none, none, (fnD (meth 2 17) (Str.ofString "BaseStemmer.slice_from") 0 .none .none), #[]⟩
noncomputable def o153 (P : Params) : Obj := ⟨(.type "code"), none, (.fields #[(.str (Str.ofString "slice_from") 357), (.str (Str.ofString "BaseStemmer.slice_from") 358), (.str (Str.ofString "/claim/cut.py") 359), (.int 133 0), (.int 2 0), (.int 0 0), (.int 0 0), (.int 3 0), (.ref 148), (.bool true), (.int 181 0), (.ref 149), .none, (.ref 150), (.ref 151), (.ref 152), (.int 362 0), (.int 133 0), (.str (Str.ofString "/claim/cut.py") 363)]), #[]⟩
noncomputable def o154 (P : Params) : Obj := ⟨(.type "function"), none, (fnD (meth 2 17) (Str.ofString "BaseStemmer.slice_from") 3 (.str (Str.ofString "snowballstemmer.basestemmer") 194) (.ref 153)), #[]⟩
noncomputable def o155 (P : Params) : Obj := ⟨(.type "tuple"), none, (.seq #[] 0), #[]⟩
noncomputable def o156 (P : Params) : Obj := ⟨.none, none, (.fields #[]), #[]⟩
noncomputable def o157 (P : Params) : Obj := ⟨(.type "tuple"), none, (.seq #[(.str (Str.ofString "self") 368)] 0), #[]⟩
noncomputable def o158 (P : Params) : Obj := ⟨(.type "tuple"), none, (.seq #[] 0), #[]⟩
noncomputable def o159 (P : Params) : Obj := ⟨.none, none, (fnD (meth 2 18) (Str.ofString "BaseStemmer.slice_del") 0 .none .none), #[]⟩
noncomputable def o160 (P : Params) : Obj := ⟨(.type "code"), none, (.fields #[(.str (Str.ofString "slice_del") 365), (.str (Str.ofString "BaseStemmer.slice_del") 366), (.str (Str.ofString "/claim/cut.py") 367), (.int 141 0), (.int 1 0), (.int 0 0), (.int 0 0), (.int 3 0), (.ref 155), (.bool true), (.int 181 0), (.ref 156), .none, (.ref 157), (.ref 158), (.ref 159), (.int 369 0), (.int 141 0), (.str (Str.ofString "/claim/cut.py") 370)]), #[]⟩
noncomputable def o161 (P : Params) : Obj := ⟨(.type "function"), none, (fnD (meth 2 18) (Str.ofString "BaseStemmer.slice_del") 3 (.str (Str.ofString "snowballstemmer.basestemmer") 194) (.ref 160)), #[]⟩
noncomputable def o162 (P : Params) : Obj := ⟨(.type "tuple"), none, (.seq #[] 0), #[]⟩
noncomputable def o163 (P : Params) : Obj := ⟨.none, none, (.fields #[]), #[]⟩
noncomputable def o164 (P : Params) : Obj := ⟨(.type "tuple"), none, (.seq #[(.str (Str.ofString "self") 375), (.str (Str.ofString "c_bra") 376), (.str (Str.ofString "c_ket") 377), (.str (Str.ofString "s") 378)] 0), #[]⟩
noncomputable def o165 (P : Params) : Obj := ⟨(.type "tuple"), none, (.seq #[] 0), #[]⟩
noncomputable def o166 (P : Params) : Obj := ⟨.none, none, (fnD (meth 2 19) (Str.ofString "BaseStemmer.insert") 0 .none .none), #[]⟩
noncomputable def o167 (P : Params) : Obj := ⟨(.type "code"), none, (.fields #[(.str (Str.ofString "insert") 372), (.str (Str.ofString "BaseStemmer.insert") 373), (.str (Str.ofString "/claim/cut.py") 374), (.int 144 0), (.int 4 0), (.int 0 0), (.int 0 0), (.int 3 0), (.ref 162), (.bool true), (.int 181 0), (.ref 163), .none, (.ref 164), (.ref 165), (.ref 166), (.int 379 0), (.int 144 0), (.str (Str.ofString "/claim/cut.py") 380)]), #[]⟩
noncomputable def o168 (P : Params) : Obj := ⟨(.type "function"), none, (fnD (meth 2 19) (Str.ofString "BaseStemmer.insert") 3 (.str (Str.ofString "snowballstemmer.basestemmer") 194) (.ref 167)), #[]⟩
noncomputable def o169 (P : Params) : Obj := ⟨(.type "tuple"), none, (.seq #[] 0), #[]⟩
noncomputable def o170 (P : Params) : Obj := ⟨.none, none, (.fields #[]), #[]⟩
noncomputable def o171 (P : Params) : Obj := ⟨(.type "tuple"), none, (.seq #[(.str (Str.ofString "self") 385)] 0), #[]⟩
noncomputable def o172 (P : Params) : Obj := ⟨(.type "tuple"), none, (.seq #[] 0), #[]⟩
noncomputable def o173 (P : Params) : Obj := ⟨.none, none, (fnD (meth 2 20) (Str.ofString "BaseStemmer.slice_to") 0 .none .none), #[]⟩
noncomputable def o174 (P : Params) : Obj := ⟨(.type "code"), none, (.fields #[(.str (Str.ofString "slice_to") 382), (.str (Str.ofString "BaseStemmer.slice_to") 383), (.str (Str.ofString "/claim/cut.py") 384), (.int 147 0), (.int 1 0), (.int 0 0), (.int 0 0), (.int 3 0), (.ref 169), (.bool true), (.int 181 0), (.ref 170), .none, (.ref 171), (.ref 172), (.ref 173), (.int 386 0), (.int 147 0), (.str (Str.ofString "/claim/cut.py") 387)]), #[]⟩
noncomputable def o175 (P : Params) : Obj := ⟨(.type "function"), none, (fnD (meth 2 20) (Str.ofString "BaseStemmer.slice_to") 3 (.str (Str.ofString "snowballstemmer.basestemmer") 194) (.ref 174)), #[]⟩
noncomputable def o176 (P : Params) : Obj := ⟨(.type "tuple"), none, (.seq #[] 0), #[]⟩
noncomputable def o177 (P : Params) : Obj := ⟨.none, none, (.fields #[]), #[]⟩
noncomputable def o178 (P : Params) : Obj := ⟨(.type "tuple"), none, (.seq #[(.str (Str.ofString "self") 392)] 0), #[]⟩
noncomputable def o179 (P : Params) : Obj := ⟨(.type "tuple"), none, (.seq #[] 0), #[]⟩
noncomputable def o180 (P : Params) : Obj := ⟨.none, none, (fnD (meth 2 21) (Str.ofString "BaseStemmer.assign_to") 0 .none .none), #[]⟩
noncomputable def o181 (P : Params) : Obj := ⟨(.type "code"), none, (.fields #[(.str (Str.ofString "assign_to") 389), (.str (Str.ofString "BaseStemmer.assign_to") 390), (.str (Str.ofString "/claim/cut.py") 391), (.int 150 0), (.int 1 0), (.int 0 0), (.int 0 0), (.int 3 0), (.ref 176), (.bool true), (.int 181 0), (.ref 177), .none, (.ref 178), (.ref 179), (.ref 180), (.int 393 0), (.int 150 0), (.str (Str.ofString "/claim/cut.py") 394)]), #[]⟩
noncomputable def o182 (P : Params) : Obj := ⟨(.type "function"), none, (fnD (meth 2 21) (Str.ofString "BaseStemmer.assign_to") 3 (.str (Str.ofString "snowballstemmer.basestemmer") 194) (.ref 181)), #[]⟩
noncomputable def o183 (P : Params) : Obj := ⟨(.type "tuple"), none, (.seq #[] 0), #[]⟩
noncomputable def o184 (P : Params) : Obj := ⟨.none, none, (.fields #[]), #[]⟩
noncomputable def o185 (P : Params) : Obj := ⟨(.type "tuple"), none, (.seq #[(.str (Str.ofString "self") 399), (.str (Str.ofString "word") 400)] 0), #[]⟩
noncomputable def o186 (P : Params) : Obj := ⟨(.type "tuple"), none, (.seq #[] 0), #[]⟩
noncomputable def o187 (P : Params) : Obj := ⟨.none, none, (fnD (meth 2 22) (Str.ofString "BaseStemmer.stemWord") 0 .none .none), #[]⟩
noncomputable def o188 (P : Params) : Obj := ⟨(.type "code"), none, (.fields #[(.str (Str.ofString "stemWord") 396), (.str (Str.ofString "BaseStemmer.stemWord") 397), (.str (Str.ofString "/claim/cut.py") 398), (.int 153 0), (.int 2 0), (.int 0 0), (.int 0 0), (.int 3 0), (.ref 183), (.bool true), (.int 181 0), (.ref 184), .none, (.ref 185), (.ref 186), (.ref 187), (.int 401 0), (.int 153 0), (.str (Str.ofString "/claim/cut.py") 402)]), #[]⟩
noncomputable def o189 (P : Params) : Obj := ⟨(.type "function"), none, (fnD (meth 2 22) (Str.ofString "BaseStemmer.stemWord") 3 (.str (Str.ofString "snowballstemmer.basestemmer") 194) (.ref 188)), #[]⟩
noncomputable def o190 (P : Params) : Obj := ⟨(.type "tuple"), none, (.seq #[] 0), #[]⟩
noncomputable def o191 (P : Params) : Obj := ⟨.none, none, (.fields #[]), #[]⟩
noncomputable def o192 (P : Params) : Obj := ⟨.none, none, (fnD (meth 2 23) (Str.ofString "BaseStemmer.stemWords") 0 .none .none), #[]⟩
noncomputable def o193 (P : Params) : Obj := ⟨(.type "code"), none, (.fields #[(.str (Str.ofString "stemWords") 404), (.str (Str.ofString "BaseStemmer.stemWords") 405), (.str (Str.ofString "/claim/cut.py") 406), (.int 158 0), (.int 2 0), (.int 0 0), (.int 0 0), (.int 3 0), (.ref 190), (.bool true), (.int 181 0), (.ref 191), .none, .none, .none, (.ref 192), (.int 407 0), (.int 158 0), (.str (Str.ofString "/claim/cut.py") 408)]), #[]⟩
noncomputable def o194 (P : Params) : Obj := ⟨(.type "function"), none, (fnD (meth 2 23) (Str.ofString "BaseStemmer.stemWords") 3 (.str (Str.ofString "snowballstemmer.basestemmer") 194) (.ref 193)), #[]⟩
noncomputable def o195 (P : Params) : Obj := ⟨(.type "tuple"), none, (.seq #[(.str (Str.ofString "bra") 410), (.str (Str.ofString "current") 411), (.str (Str.ofString "cursor") 412), (.str (Str.ofString "ket") 413), (.str (Str.ofString "limit") 414), (.str (Str.ofString "limit_backward") 415)] 0), #[]⟩
noncomputable def o196 (P : Params) : Obj := ⟨(.type "dict"), none, (.dict #[en P "__module__" 203 (.str (Str.ofString "snowballstemmer.basestemmer") 194), en P "__firstlineno__" 207 (.int 5 206), en P "__init__" 214 (.ref 35), en P "set_current" 222 (.ref 42), en P "get_current" 229 (.ref 49), en P "copy_from" 237 (.ref 56), en P "in_grouping" 245 (.ref 63), en P "go_in_grouping" 253 (.ref 70), en P "in_grouping_b" 261 (.ref 77), en P "go_in_grouping_b" 269 (.ref 84), en P "out_grouping" 277 (.ref 91), en P "go_out_grouping" 285 (.ref 98), en P "out_grouping_b" 293 (.ref 105), en P "go_out_grouping_b" 301 (.ref 112), en P "eq_s" 309 (.ref 119), en P "eq_s_b" 317 (.ref 126), en P "find_among" 325 (.ref 133), en P "find_among_b" 345 (.ref 140), en P "replace_s" 356 (.ref 147), en P "slice_from" 364 (.ref 154), en P "slice_del" 371 (.ref 161), en P "insert" 381 (.ref 168), en P "slice_to" 388 (.ref 175), en P "assign_to" 395 (.ref 182), en P "stemWord" 403 (.ref 189), en P "stemWords" 409 (.ref 194), en P "__static_attributes__" 416 (.ref 195), en P "__dict__" 418 (.ref 198), en P "__weakref__" 420 (.ref 199), en P "__doc__" 421 .none] 4), #[]⟩
noncomputable def o197 (P : Params) : Obj := ⟨(.type "type"), none, (.cls { name := (Str.ofString "BaseStemmer"), bases := [(.type "object")], mro := [(.ref 197), (.type "object")], ns := 196, qualname := (Str.ofString "BaseStemmer"), subclasses := [] }), #[none, none, some (.str (Str.ofString "BaseStemmer") 196), some (.str (Str.ofString "BaseStemmer") 204), some (.builtin "object.__new__"), some (.bool true)]⟩
noncomputable def o198 (P : Params) : Obj := ⟨(.type "getset_descriptor"), none, (.fields #[(.str (Str.ofString "__dict__") 417), (.ref 197), (.builtin "function.__dict__"), (.builtin "function.__dict__#set")]), #[]⟩
noncomputable def o199 (P : Params) : Obj := ⟨(.type "getset_descriptor"), none, (.fields #[(.str (Str.ofString "__weakref__") 419), (.ref 197), (.builtin "ExceptionGroup.__weakref__"), .none]), #[]⟩
noncomputable def o200 (P : Params) : Obj := ⟨(.type "super"), none, (.fields #[(.ref 197), (.ref 197), (.ref 197)]), #[]⟩
noncomputable def o201 (P : Params) : Obj := ⟨(.type "builtin_function_or_method"), none, (.fields #[(.builtin "object.__init_subclass__"), (.ref 197)]), #[]⟩
noncomputable def o202 (P : Params) : Obj := ⟨(.type "tuple"), none, (.seq #[] 0), #[]⟩
noncomputable def o203 (P : Params) : Obj := ⟨(.type "builtin_function_or_method"), none, (.fields #[(.builtin "type.__prepare__"), (.type "type")]), #[]⟩
noncomputable def o204 (P : Params) : Obj := ⟨(.type "dict"), none, (.dict #[en P "__module__" 433 (.str (Str.ofString "snowballstemmer.among") 424), en P "__qualname__" 435 (.str (Str.ofString "Among") 434), en P "__firstlineno__" 437 (.int 161 436), en P "__init__" 447 (.ref 215), en P "__static_attributes__" 451 (.ref 216)] 5), #[]⟩
noncomputable def o205 (P : Params) : Obj := ⟨(.type "tuple"), none, (.seq #[] 0), #[]⟩
noncomputable def o206 (P : Params) : Obj := ⟨.none, none, (.fields #[(.int 163 0), (.int 4 0), (.ref 214)]), #[]⟩
noncomputable def o207 (P : Params) : Obj := ⟨(.type "code"), none, (.fields #[(.str (Str.ofString "Among") 428), (.str (Str.ofString "Among") 429), (.str (Str.ofString "/claim/cut.py") 430), (.int 161 0), (.int 0 0), (.int 0 0), (.int 0 0), (.int 0 0), (.ref 205), (.bool false), (.int 181 0), (.ref 206), .none, .none, .none, .none, (.int 431 0), (.int 161 0), (.str (Str.ofString "/claim/cut.py") 432)]), #[]⟩
noncomputable def o208 (P : Params) : Obj := ⟨(.type "frame"), none, .plain, #[some (.ref 207), some (.ref 3), some (.ref 204), none, some (.str (Str.ofString "snowballstemmer.among") 424), none, some (.ref 0)]⟩
noncomputable def o209 (P : Params) : Obj := ⟨(.type "tuple"), none, (.seq #[] 0), #[]⟩
noncomputable def o210 (P : Params) : Obj := ⟨.none, none, (.fields #[]), #[]⟩
noncomputable def o211 (P : Params) : Obj := ⟨(.type "tuple"), none, (.seq #[(.str (Str.ofString "self") 441), (.str (Str.ofString "s") 442), (.str (Str.ofString "substring_i") 443), (.str (Str.ofString "result") 444)] 0), #[]⟩
noncomputable def o212 (P : Params) : Obj := ⟨(.type "tuple"), none, (.seq #[] 0), #[]⟩
noncomputable def o213 (P : Params) : Obj := ⟨.none, none, (fnD (meth 4 0) (Str.ofString "Among.__init__") 0 .none .none), #[]⟩
noncomputable def o214 (P : Params) : Obj := ⟨(.type "code"), none, (.fields #[(.str (Str.ofString "__init__") 438), (.str (Str.ofString "Among.__init__") 439), (.str (Str.ofString "/claim/cut.py") 440), (.int 163 0), (.int 4 0), (.int 0 0), (.int 0 0), (.int 3 0), (.ref 209), (.bool true), (.int 181 0), (.ref 210), .none, (.ref 211), (.ref 212), (.ref 213), (.int 445 0), (.int 163 0), (.str (Str.ofString "/claim/cut.py") 446)]), #[]⟩
noncomputable def o215 (P : Params) : Obj := ⟨(.type "function"), none, (fnD (meth 4 0) (Str.ofString "Among.__init__") 3 (.str (Str.ofString "snowballstemmer.among") 424) (.ref 214)), #[]⟩
noncomputable def o216 (P : Params) : Obj := ⟨(.type "tuple"), none, (.seq #[(.str (Str.ofString "result") 448), (.str (Str.ofString "s") 449), (.str (Str.ofString "substring_i") 450)] 0), #[]⟩
noncomputable def o217 (P : Params) : Obj := ⟨(.type "dict"), none, (.dict #[en P "__module__" 433 (.str (Str.ofString "snowballstemmer.among") 424), en P "__firstlineno__" 437 (.int 161 436), en P "__init__" 447 (.ref 215), en P "__static_attributes__" 451 (.ref 216), en P "__dict__" 453 (.ref 219), en P "__weakref__" 455 (.ref 220), en P "__doc__" 456 .none] 4), #[]⟩
noncomputable def o218 (P : Params) : Obj := ⟨(.type "type"), none, (.cls { name := (Str.ofString "Among"), bases := [(.type "object")], mro := [(.ref 218), (.type "object")], ns := 217, qualname := (Str.ofString "Among"), subclasses := [] }), #[none, none, some (.str (Str.ofString "Among") 426), some (.str (Str.ofString "Among") 434), some (.builtin "object.__new__"), some (.bool true)]⟩
noncomputable def o219 (P : Params) : Obj := ⟨(.type "getset_descriptor"), none, (.fields #[(.str (Str.ofString "__dict__") 452), (.ref 218), (.builtin "function.__dict__"), (.builtin "function.__dict__#set")]), #[]⟩
noncomputable def o220 (P : Params) : Obj := ⟨(.type "getset_descriptor"), none, (.fields #[(.str (Str.ofString "__weakref__") 454), (.ref 218), (.builtin "ExceptionGroup.__weakref__"), .none]), #[]⟩
noncomputable def o221 (P : Params) : Obj := ⟨(.type "super"), none, (.fields #[(.ref 218), (.ref 218), (.ref 218)]), #[]⟩
noncomputable def o222 (P : Params) : Obj := ⟨(.type "builtin_function_or_method"), none, (.fields #[(.builtin "object.__init_subclass__"), (.ref 218)]), #[]⟩
noncomputable def T6 (P : Params) : BT := (.node (boot_o_0 P) (.node (boot_o_1 P) (.node (o3_1 P) (.node (boot_o_7 P) (.node (o15 P) (.node (o31 P) (.node (o63 P) (lf (o127 P)) (lf (o191 P))) (.node (o95 P) (lf (o159 P)) .nil)) (.node (o47 P) (.node (o79 P) (lf (o143 P)) (lf (o207 P))) (.node (o111 P) (lf (o175 P)) .nil))) (.node (o23 P) (.node (o39 P) (.node (o71 P) (lf (o135 P)) (lf (o199 P))) (.node (o103 P) (lf (o167 P)) .nil)) (.node (o55 P) (.node (o87 P) (lf (o151 P)) (lf (o215 P))) (.node (o119 P) (lf (o183 P)) .nil)))) (.node (o11 P) (.node (o19 P) (.node (o35 P) (.node (o67 P) (lf (o131 P)) (lf (o195 P))) (.node (o99 P) (lf (o163 P)) .nil)) (.node (o51 P) (.node (o83 P) (lf (o147 P)) (lf (o211 P))) (.node (o115 P) (lf (o179 P)) .nil))) (.node (o27 P) (.node (o43 P) (.node (o75 P) (lf (o139 P)) (lf (o203 P))) (.node (o107 P) (lf (o171 P)) .nil)) (.node (o59 P) (.node (o91 P) (lf (o155 P)) (lf (o219 P))) (.node (o123 P) (lf (o187 P)) .nil))))) (.node (boot_o_5 P) (.node (boot_o_9 P) (.node (o17 P) (.node (o33 P) (.node (o65 P) (lf (o129 P)) (lf (o193 P))) (.node (o97 P) (lf (o161 P)) .nil)) (.node (o49 P) (.node (o81 P) (lf (o145 P)) (lf (o209 P))) (.node (o113 P) (lf (o177 P)) .nil))) (.node (o25 P) (.node (o41 P) (.node (o73 P) (lf (o137 P)) (lf (o201 P))) (.node (o105 P) (lf (o169 P)) .nil)) (.node (o57 P) (.node (o89 P) (lf (o153 P)) (lf (o217 P))) (.node (o121 P) (lf (o185 P)) .nil)))) (.node (o13 P) (.node (o21 P) (.node (o37 P) (.node (o69 P) (lf (o133 P)) (lf (o197 P))) (.node (o101 P) (lf (o165 P)) .nil)) (.node (o53 P) (.node (o85 P) (lf (o149 P)) (lf (o213 P))) (.node (o117 P) (lf (o181 P)) .nil))) (.node (o29 P) (.node (o45 P) (.node (o77 P) (lf (o141 P)) (lf (o205 P))) (.node (o109 P) (lf (o173 P)) .nil)) (.node (o61 P) (.node (o93 P) (lf (o157 P)) (lf (o221 P))) (.node (o125 P) (lf (o189 P)) .nil)))))) (.node (o2 P) (.node (boot_o_4 P) (.node (boot_o_8 P) (.node (o16 P) (.node (o32 P) (.node (o64 P) (lf (o128 P)) (lf (o192 P))) (.node (o96 P) (lf (o160 P)) .nil)) (.node (o48 P) (.node (o80 P) (lf (o144 P)) (lf (o208 P))) (.node (o112 P) (lf (o176 P)) .nil))) (.node (o24 P) (.node (o40 P) (.node (o72 P) (lf (o136 P)) (lf (o200 P))) (.node (o104 P) (lf (o168 P)) .nil)) (.node (o56 P) (.node (o88 P) (lf (o152 P)) (lf (o216 P))) (.node (o120 P) (lf (o184 P)) .nil)))) (.node (o12_1 P) (.node (o20 P) (.node (o36 P) (.node (o68 P) (lf (o132 P)) (lf (o196 P))) (.node (o100 P) (lf (o164 P)) .nil)) (.node (o52 P) (.node (o84 P) (lf (o148 P)) (lf (o212 P))) (.node (o116 P) (lf (o180 P)) .nil))) (.node (o28 P) (.node (o44 P) (.node (o76 P) (lf (o140 P)) (lf (o204 P))) (.node (o108 P) (lf (o172 P)) .nil)) (.node (o60 P) (.node (o92 P) (lf (o156 P)) (lf (o220 P))) (.node (o124 P) (lf (o188 P)) .nil))))) (.node (boot_o_6 P) (.node (boot_o_10 P) (.node (o18 P) (.node (o34 P) (.node (o66 P) (lf (o130 P)) (lf (o194 P))) (.node (o98 P) (lf (o162 P)) .nil)) (.node (o50 P) (.node (o82 P) (lf (o146 P)) (lf (o210 P))) (.node (o114 P) (lf (o178 P)) .nil))) (.node (o26 P) (.node (o42 P) (.node (o74 P) (lf (o138 P)) (lf (o202 P))) (.node (o106 P) (lf (o170 P)) .nil)) (.node (o58 P) (.node (o90 P) (lf (o154 P)) (lf (o218 P))) (.node (o122 P) (lf (o186 P)) .nil)))) (.node (o14 P) (.node (o22 P) (.node (o38 P) (.node (o70 P) (lf (o134 P)) (lf (o198 P))) (.node (o102 P) (lf (o166 P)) .nil)) (.node (o54 P) (.node (o86 P) (lf (o150 P)) (lf (o214 P))) (.node (o118 P) (lf (o182 P)) .nil))) (.node (o30 P) (.node (o46 P) (.node (o78 P) (lf (o142 P)) (lf (o206 P))) (.node (o110 P) (lf (o174 P)) .nil)) (.node (o62 P) (.node (o94 P) (lf (o158 P)) (lf (o222 P))) (.node (o126 P) (lf (o190 P)) .nil)))))))
noncomputable def s6 (P : Params) (T : Nat) (os : OsState) : SharedT := ⟨T6 P, 223, {}, #[], {}, T, os⟩
noncomputable def o12_2 (P : Params) : Obj := ⟨.none, none, (.fields #[(.int 1 0), (.int 0 0), (.ref 20), (.int 5 0), (.int 0 0), (.ref 27), (.int 161 0), (.int 0 0), (.ref 207), (.int 168 0), (.int 0 0), (.ref 228)]), #[]⟩
noncomputable def o223 (P : Params) : Obj := ⟨(.type "tuple"), none, (.seq #[(.ref 197)] 0), #[]⟩
noncomputable def o224 (P : Params) : Obj := ⟨(.type "builtin_function_or_method"), none, (.fields #[(.builtin "type.__prepare__"), (.type "type")]), #[]⟩
noncomputable def o225 (P : Params) : Obj := ⟨(.type "dict"), none, (.dict #[en P "__module__" 468 (.str (Str.ofString "snowballstemmer.swedish_stemmer") 459), en P "__qualname__" 470 (.str (Str.ofString "SwedishStemmer") 469), en P "__firstlineno__" 472 (.int 168 471)] 3), #[]⟩
noncomputable def o226 (P : Params) : Obj := ⟨(.type "tuple"), none, (.seq #[] 0), #[]⟩
noncomputable def o227 (P : Params) : Obj := ⟨.none, none, (.fields #[]), #[]⟩
noncomputable def o228 (P : Params) : Obj := ⟨(.type "code"), none, (.fields #[(.str (Str.ofString "SwedishStemmer") 463), (.str (Str.ofString "SwedishStemmer") 464), (.str (Str.ofString "/claim/cut.py") 465), (.int 168 0), (.int 0 0), (.int 0 0), (.int 0 0), (.int 0 0), (.ref 226), (.bool false), (.int 181 0), (.ref 227), .none, .none, .none, .none, (.int 466 0), (.int 168 0), (.str (Str.ofString "/claim/cut.py") 467)]), #[]⟩
noncomputable def o229 (P : Params) : Obj := ⟨(.type "frame"), none, .plain, #[some (.ref 228), some (.ref 3), some (.ref 225), none, some (.str (Str.ofString "snowballstemmer.swedish_stemmer") 459), none, some (.ref 0)]⟩
noncomputable def TC0 (P : Params) : BT := (.node (boot_o_0 P) (.node (boot_o_1 P) (.node (o3_1 P) (.node (boot_o_7 P) (.node (o15 P) (.node (o31 P) (.node (o63 P) (lf (o127 P)) (lf (o191 P))) (.node (o95 P) (lf (o159 P)) (lf (o223 P)))) (.node (o47 P) (.node (o79 P) (lf (o143 P)) (lf (o207 P))) (.node (o111 P) (lf (o175 P)) .nil))) (.node (o23 P) (.node (o39 P) (.node (o71 P) (lf (o135 P)) (lf (o199 P))) (.node (o103 P) (lf (o167 P)) .nil)) (.node (o55 P) (.node (o87 P) (lf (o151 P)) (lf (o215 P))) (.node (o119 P) (lf (o183 P)) .nil)))) (.node (o11 P) (.node (o19 P) (.node (o35 P) (.node (o67 P) (lf (o131 P)) (lf (o195 P))) (.node (o99 P) (lf (o163 P)) (lf (o227 P)))) (.node (o51 P) (.node (o83 P) (lf (o147 P)) (lf (o211 P))) (.node (o115 P) (lf (o179 P)) .nil))) (.node (o27 P) (.node (o43 P) (.node (o75 P) (lf (o139 P)) (lf (o203 P))) (.node (o107 P) (lf (o171 P)) .nil)) (.node (o59 P) (.node (o91 P) (lf (o155 P)) (lf (o219 P))) (.node (o123 P) (lf (o187 P)) .nil))))) (.node (boot_o_5 P) (.node (boot_o_9 P) (.node (o17 P) (.node (o33 P) (.node (o65 P) (lf (o129 P)) (lf (o193 P))) (.node (o97 P) (lf (o161 P)) (lf (o225 P)))) (.node (o49 P) (.node (o81 P) (lf (o145 P)) (lf (o209 P))) (.node (o113 P) (lf (o177 P)) .nil))) (.node (o25 P) (.node (o41 P) (.node (o73 P) (lf (o137 P)) (lf (o201 P))) (.node (o105 P) (lf (o169 P)) .nil)) (.node (o57 P) (.node (o89 P) (lf (o153 P)) (lf (o217 P))) (.node (o121 P) (lf (o185 P)) .nil)))) (.node (o13 P) (.node (o21 P) (.node (o37 P) (.node (o69 P) (lf (o133 P)) (lf (o197 P))) (.node (o101 P) (lf (o165 P)) (lf (o229 P)))) (.node (o53 P) (.node (o85 P) (lf (o149 P)) (lf (o213 P))) (.node (o117 P) (lf (o181 P)) .nil))) (.node (o29 P) (.node (o45 P) (.node (o77 P) (lf (o141 P)) (lf (o205 P))) (.node (o109 P) (lf (o173 P)) .nil)) (.node (o61 P) (.node (o93 P) (lf (o157 P)) (lf (o221 P))) (.node (o125 P) (lf (o189 P)) .nil)))))) (.node (o2 P) (.node (boot_o_4 P) (.node (boot_o_8 P) (.node (o16 P) (.node (o32 P) (.node (o64 P) (lf (o128 P)) (lf (o192 P))) (.node (o96 P) (lf (o160 P)) (lf (o224 P)))) (.node (o48 P) (.node (o80 P) (lf (o144 P)) (lf (o208 P))) (.node (o112 P) (lf (o176 P)) .nil))) (.node (o24 P) (.node (o40 P) (.node (o72 P) (lf (o136 P)) (lf (o200 P))) (.node (o104 P) (lf (o168 P)) .nil)) (.node (o56 P) (.node (o88 P) (lf (o152 P)) (lf (o216 P))) (.node (o120 P) (lf (o184 P)) .nil)))) (.node (o12_2 P) (.node (o20 P) (.node (o36 P) (.node (o68 P) (lf (o132 P)) (lf (o196 P))) (.node (o100 P) (lf (o164 P)) (lf (o228 P)))) (.node (o52 P) (.node (o84 P) (lf (o148 P)) (lf (o212 P))) (.node (o116 P) (lf (o180 P)) .nil))) (.node (o28 P) (.node (o44 P) (.node (o76 P) (lf (o140 P)) (lf (o204 P))) (.node (o108 P) (lf (o172 P)) .nil)) (.node (o60 P) (.node (o92 P) (lf (o156 P)) (lf (o220 P))) (.node (o124 P) (lf (o188 P)) .nil))))) (.node (boot_o_6 P) (.node (boot_o_10 P) (.node (o18 P) (.node (o34 P) (.node (o66 P) (lf (o130 P)) (lf (o194 P))) (.node (o98 P) (lf (o162 P)) (lf (o226 P)))) (.node (o50 P) (.node (o82 P) (lf (o146 P)) (lf (o210 P))) (.node (o114 P) (lf (o178 P)) .nil))) (.node (o26 P) (.node (o42 P) (.node (o74 P) (lf (o138 P)) (lf (o202 P))) (.node (o106 P) (lf (o170 P)) .nil)) (.node (o58 P) (.node (o90 P) (lf (o154 P)) (lf (o218 P))) (.node (o122 P) (lf (o186 P)) .nil)))) (.node (o14 P) (.node (o22 P) (.node (o38 P) (.node (o70 P) (lf (o134 P)) (lf (o198 P))) (.node (o102 P) (lf (o166 P)) .nil)) (.node (o54 P) (.node (o86 P) (lf (o150 P)) (lf (o214 P))) (.node (o118 P) (lf (o182 P)) .nil))) (.node (o30 P) (.node (o46 P) (.node (o78 P) (lf (o142 P)) (lf (o206 P))) (.node (o110 P) (lf (o174 P)) .nil)) (.node (o62 P) (.node (o94 P) (lf (o158 P)) (lf (o222 P))) (.node (o126 P) (lf (o190 P)) .nil)))))))
noncomputable def sC0 (P : Params) (T : Nat) (os : OsState) : SharedT := ⟨TC0 P, 230, {}, #[], {}, T, os⟩
noncomputable def TC1a (P : Params) (d1 : Data) : BT := (.node (boot_o_0 P) (.node (boot_o_1 P) (.node (o3_1 P) (.node (boot_o_7 P) (.node (o15 P) (.node (o31 P) (.node (o63 P) (lf (o127 P)) (lf (o191 P))) (.node (o95 P) (lf (o159 P)) (lf (o223 P)))) (.node (o47 P) (.node (o79 P) (lf (o143 P)) (lf (o207 P))) (.node (o111 P) (lf (o175 P)) .nil))) (.node (o23 P) (.node (o39 P) (.node (o71 P) (lf (o135 P)) (lf (o199 P))) (.node (o103 P) (lf (o167 P)) .nil)) (.node (o55 P) (.node (o87 P) (lf (o151 P)) (lf (o215 P))) (.node (o119 P) (lf (o183 P)) .nil)))) (.node (o11 P) (.node (o19 P) (.node (o35 P) (.node (o67 P) (lf (o131 P)) (lf (o195 P))) (.node (o99 P) (lf (o163 P)) (lf (o227 P)))) (.node (o51 P) (.node (o83 P) (lf (o147 P)) (lf (o211 P))) (.node (o115 P) (lf (o179 P)) .nil))) (.node (o27 P) (.node (o43 P) (.node (o75 P) (lf (o139 P)) (lf (o203 P))) (.node (o107 P) (lf (o171 P)) .nil)) (.node (o59 P) (.node (o91 P) (lf (o155 P)) (lf (o219 P))) (.node (o123 P) (lf (o187 P)) .nil))))) (.node (boot_o_5 P) (.node (boot_o_9 P) (.node (o17 P) (.node (o33 P) (.node (o65 P) (lf (o129 P)) (lf (o193 P))) (.node (o97 P) (lf (o161 P)) (lf (o225 P)))) (.node (o49 P) (.node (o81 P) (lf (o145 P)) (lf (o209 P))) (.node (o113 P) (lf (o177 P)) .nil))) (.node (o25 P) (.node (o41 P) (.node (o73 P) (lf (o137 P)) (lf (o201 P))) (.node (o105 P) (lf (o169 P)) .nil)) (.node (o57 P) (.node (o89 P) (lf (o153 P)) (lf (o217 P))) (.node (o121 P) (lf (o185 P)) .nil)))) (.node (o13 P) (.node (o21 P) (.node (o37 P) (.node (o69 P) (lf (o133 P)) (lf (o197 P))) (.node (o101 P) (lf (o165 P)) (lf (o229 P)))) (.node (o53 P) (.node (o85 P) (lf (o149 P)) (lf (o213 P))) (.node (o117 P) (lf (o181 P)) .nil))) (.node (o29 P) (.node (o45 P) (.node (o77 P) (lf (o141 P)) (lf (o205 P))) (.node (o109 P) (lf (o173 P)) .nil)) (.node (o61 P) (.node (o93 P) (lf (o157 P)) (lf (o221 P))) (.node (o125 P) (lf (o189 P)) .nil)))))) (.node (o2 P) (.node (boot_o_4 P) (.node (boot_o_8 P) (.node (o16 P) (.node (o32 P) (.node (o64 P) (lf (o128 P)) (lf (o192 P))) (.node (o96 P) (lf (o160 P)) (lf (o224 P)))) (.node (o48 P) (.node (o80 P) (lf (o144 P)) (lf (o208 P))) (.node (o112 P) (lf (o176 P)) .nil))) (.node (o24 P) (.node (o40 P) (.node (o72 P) (lf (o136 P)) (lf (o200 P))) (.node (o104 P) (lf (o168 P)) .nil)) (.node (o56 P) (.node (o88 P) (lf (o152 P)) (lf (o216 P))) (.node (o120 P) (lf (o184 P)) .nil)))) (.node (o12_2 P) (.node (o20 P) (.node (o36 P) (.node (o68 P) (lf (o132 P)) (lf (o196 P))) (.node (o100 P) (lf (o164 P)) (lf (o228 P)))) (.node (o52 P) (.node (o84 P) (lf (o148 P)) (lf (o212 P))) (.node (o116 P) (lf (o180 P)) .nil))) (.node (o28 P) (.node (o44 P) (.node (o76 P) (lf (o140 P)) (lf (o204 P))) (.node (o108 P) (lf (o172 P)) .nil)) (.node (o60 P) (.node (o92 P) (lf (o156 P)) (lf (o220 P))) (.node (o124 P) (lf (o188 P)) .nil))))) (.node (boot_o_6 P) (.node (boot_o_10 P) (.node (o18 P) (.node (o34 P) (.node (o66 P) (lf (o130 P)) (lf (o194 P))) (.node (o98 P) (lf (o162 P)) (lf (o226 P)))) (.node (o50 P) (.node (o82 P) (lf (o146 P)) (lf (o210 P))) (.node (o114 P) (lf (o178 P)) .nil))) (.node (o26 P) (.node (o42 P) (.node (o74 P) (lf (o138 P)) (lf (o202 P))) (.node (o106 P) (lf (o170 P)) .nil)) (.node (o58 P) (.node (o90 P) (lf (o154 P)) (lf (o218 P))) (.node (o122 P) (lf (o186 P)) .nil)))) (.node (o14 P) (.node (o22 P) (.node (o38 P) (.node (o70 P) (lf (o134 P)) (lf (o198 P))) (.node (o102 P) (lf (o166 P)) (lf (so d1)))) (.node (o54 P) (.node (o86 P) (lf (o150 P)) (lf (o214 P))) (.node (o118 P) (lf (o182 P)) .nil))) (.node (o30 P) (.node (o46 P) (.node (o78 P) (lf (o142 P)) (lf (o206 P))) (.node (o110 P) (lf (o174 P)) .nil)) (.node (o62 P) (.node (o94 P) (lf (o158 P)) (lf (o222 P))) (.node (o126 P) (lf (o190 P)) .nil)))))))
noncomputable def sC1a (P : Params) (d1 : Data) (T : Nat) (os : OsState) : SharedT := ⟨TC1a P d1, 231, {}, #[], {}, T, os⟩
noncomputable def o225_1 (P : Params) : Obj := ⟨(.type "dict"), none, (.dict #[en P "__module__" 468 (.str (Str.ofString "snowballstemmer.swedish_stemmer") 459), en P "__qualname__" 470 (.str (Str.ofString "SwedishStemmer") 469), en P "__firstlineno__" 472 (.int 168 471), en P "g_v" 491 (.ref 230)] 4), #[]⟩
noncomputable def TC1 (P : Params) (d1 : Data) : BT := (.node (boot_o_0 P) (.node (boot_o_1 P) (.node (o3_1 P) (.node (boot_o_7 P) (.node (o15 P) (.node (o31 P) (.node (o63 P) (lf (o127 P)) (lf (o191 P))) (.node (o95 P) (lf (o159 P)) (lf (o223 P)))) (.node (o47 P) (.node (o79 P) (lf (o143 P)) (lf (o207 P))) (.node (o111 P) (lf (o175 P)) .nil))) (.node (o23 P) (.node (o39 P) (.node (o71 P) (lf (o135 P)) (lf (o199 P))) (.node (o103 P) (lf (o167 P)) .nil)) (.node (o55 P) (.node (o87 P) (lf (o151 P)) (lf (o215 P))) (.node (o119 P) (lf (o183 P)) .nil)))) (.node (o11 P) (.node (o19 P) (.node (o35 P) (.node (o67 P) (lf (o131 P)) (lf (o195 P))) (.node (o99 P) (lf (o163 P)) (lf (o227 P)))) (.node (o51 P) (.node (o83 P) (lf (o147 P)) (lf (o211 P))) (.node (o115 P) (lf (o179 P)) .nil))) (.node (o27 P) (.node (o43 P) (.node (o75 P) (lf (o139 P)) (lf (o203 P))) (.node (o107 P) (lf (o171 P)) .nil)) (.node (o59 P) (.node (o91 P) (lf (o155 P)) (lf (o219 P))) (.node (o123 P) (lf (o187 P)) .nil))))) (.node (boot_o_5 P) (.node (boot_o_9 P) (.node (o17 P) (.node (o33 P) (.node (o65 P) (lf (o129 P)) (lf (o193 P))) (.node (o97 P) (lf (o161 P)) (lf (o225_1 P)))) (.node (o49 P) (.node (o81 P) (lf (o145 P)) (lf (o209 P))) (.node (o113 P) (lf (o177 P)) .nil))) (.node (o25 P) (.node (o41 P) (.node (o73 P) (lf (o137 P)) (lf (o201 P))) (.node (o105 P) (lf (o169 P)) .nil)) (.node (o57 P) (.node (o89 P) (lf (o153 P)) (lf (o217 P))) (.node (o121 P) (lf (o185 P)) .nil)))) (.node (o13 P) (.node (o21 P) (.node (o37 P) (.node (o69 P) (lf (o133 P)) (lf (o197 P))) (.node (o101 P) (lf (o165 P)) (lf (o229 P)))) (.node (o53 P) (.node (o85 P) (lf (o149 P)) (lf (o213 P))) (.node (o117 P) (lf (o181 P)) .nil))) (.node (o29 P) (.node (o45 P) (.node (o77 P) (lf (o141 P)) (lf (o205 P))) (.node (o109 P) (lf (o173 P)) .nil)) (.node (o61 P) (.node (o93 P) (lf (o157 P)) (lf (o221 P))) (.node (o125 P) (lf (o189 P)) .nil)))))) (.node (o2 P) (.node (boot_o_4 P) (.node (boot_o_8 P) (.node (o16 P) (.node (o32 P) (.node (o64 P) (lf (o128 P)) (lf (o192 P))) (.node (o96 P) (lf (o160 P)) (lf (o224 P)))) (.node (o48 P) (.node (o80 P) (lf (o144 P)) (lf (o208 P))) (.node (o112 P) (lf (o176 P)) .nil))) (.node (o24 P) (.node (o40 P) (.node (o72 P) (lf (o136 P)) (lf (o200 P))) (.node (o104 P) (lf (o168 P)) .nil)) (.node (o56 P) (.node (o88 P) (lf (o152 P)) (lf (o216 P))) (.node (o120 P) (lf (o184 P)) .nil)))) (.node (o12_2 P) (.node (o20 P) (.node (o36 P) (.node (o68 P) (lf (o132 P)) (lf (o196 P))) (.node (o100 P) (lf (o164 P)) (lf (o228 P)))) (.node (o52 P) (.node (o84 P) (lf (o148 P)) (lf (o212 P))) (.node (o116 P) (lf (o180 P)) .nil))) (.node (o28 P) (.node (o44 P) (.node (o76 P) (lf (o140 P)) (lf (o204 P))) (.node (o108 P) (lf (o172 P)) .nil)) (.node (o60 P) (.node (o92 P) (lf (o156 P)) (lf (o220 P))) (.node (o124 P) (lf (o188 P)) .nil))))) (.node (boot_o_6 P) (.node (boot_o_10 P) (.node (o18 P) (.node (o34 P) (.node (o66 P) (lf (o130 P)) (lf (o194 P))) (.node (o98 P) (lf (o162 P)) (lf (o226 P)))) (.node (o50 P) (.node (o82 P) (lf (o146 P)) (lf (o210 P))) (.node (o114 P) (lf (o178 P)) .nil))) (.node (o26 P) (.node (o42 P) (.node (o74 P) (lf (o138 P)) (lf (o202 P))) (.node (o106 P) (lf (o170 P)) .nil)) (.node (o58 P) (.node (o90 P) (lf (o154 P)) (lf (o218 P))) (.node (o122 P) (lf (o186 P)) .nil)))) (.node (o14 P) (.node (o22 P) (.node (o38 P) (.node (o70 P) (lf (o134 P)) (lf (o198 P))) (.node (o102 P) (lf (o166 P)) (lf (so d1)))) (.node (o54 P) (.node (o86 P) (lf (o150 P)) (lf (o214 P))) (.node (o118 P) (lf (o182 P)) .nil))) (.node (o30 P) (.node (o46 P) (.node (o78 P) (lf (o142 P)) (lf (o206 P))) (.node (o110 P) (lf (o174 P)) .nil)) (.node (o62 P) (.node (o94 P) (lf (o158 P)) (lf (o222 P))) (.node (o126 P) (lf (o190 P)) .nil)))))))
noncomputable def sC1 (P : Params) (d1 : Data) (T : Nat) (os : OsState) : SharedT := ⟨TC1 P d1, 231, {}, #[], {}, T, os⟩
noncomputable def TC2a (P : Params) (d1 d2 : Data) : BT := (.node (boot_o_0 P) (.node (boot_o_1 P) (.node (o3_1 P) (.node (boot_o_7 P) (.node (o15 P) (.node (o31 P) (.node (o63 P) (lf (o127 P)) (lf (o191 P))) (.node (o95 P) (lf (o159 P)) (lf (o223 P)))) (.node (o47 P) (.node (o79 P) (lf (o143 P)) (lf (o207 P))) (.node (o111 P) (lf (o175 P)) .nil))) (.node (o23 P) (.node (o39 P) (.node (o71 P) (lf (o135 P)) (lf (o199 P))) (.node (o103 P) (lf (o167 P)) (lf (so d2)))) (.node (o55 P) (.node (o87 P) (lf (o151 P)) (lf (o215 P))) (.node (o119 P) (lf (o183 P)) .nil)))) (.node (o11 P) (.node (o19 P) (.node (o35 P) (.node (o67 P) (lf (o131 P)) (lf (o195 P))) (.node (o99 P) (lf (o163 P)) (lf (o227 P)))) (.node (o51 P) (.node (o83 P) (lf (o147 P)) (lf (o211 P))) (.node (o115 P) (lf (o179 P)) .nil))) (.node (o27 P) (.node (o43 P) (.node (o75 P) (lf (o139 P)) (lf (o203 P))) (.node (o107 P) (lf (o171 P)) .nil)) (.node (o59 P) (.node (o91 P) (lf (o155 P)) (lf (o219 P))) (.node (o123 P) (lf (o187 P)) .nil))))) (.node (boot_o_5 P) (.node (boot_o_9 P) (.node (o17 P) (.node (o33 P) (.node (o65 P) (lf (o129 P)) (lf (o193 P))) (.node (o97 P) (lf (o161 P)) (lf (o225_1 P)))) (.node (o49 P) (.node (o81 P) (lf (o145 P)) (lf (o209 P))) (.node (o113 P) (lf (o177 P)) .nil))) (.node (o25 P) (.node (o41 P) (.node (o73 P) (lf (o137 P)) (lf (o201 P))) (.node (o105 P) (lf (o169 P)) .nil)) (.node (o57 P) (.node (o89 P) (lf (o153 P)) (lf (o217 P))) (.node (o121 P) (lf (o185 P)) .nil)))) (.node (o13 P) (.node (o21 P) (.node (o37 P) (.node (o69 P) (lf (o133 P)) (lf (o197 P))) (.node (o101 P) (lf (o165 P)) (lf (o229 P)))) (.node (o53 P) (.node (o85 P) (lf (o149 P)) (lf (o213 P))) (.node (o117 P) (lf (o181 P)) .nil))) (.node (o29 P) (.node (o45 P) (.node (o77 P) (lf (o141 P)) (lf (o205 P))) (.node (o109 P) (lf (o173 P)) .nil)) (.node (o61 P) (.node (o93 P) (lf (o157 P)) (lf (o221 P))) (.node (o125 P) (lf (o189 P)) .nil)))))) (.node (o2 P) (.node (boot_o_4 P) (.node (boot_o_8 P) (.node (o16 P) (.node (o32 P) (.node (o64 P) (lf (o128 P)) (lf (o192 P))) (.node (o96 P) (lf (o160 P)) (lf (o224 P)))) (.node (o48 P) (.node (o80 P) (lf (o144 P)) (lf (o208 P))) (.node (o112 P) (lf (o176 P)) .nil))) (.node (o24 P) (.node (o40 P) (.node (o72 P) (lf (o136 P)) (lf (o200 P))) (.node (o104 P) (lf (o168 P)) .nil)) (.node (o56 P) (.node (o88 P) (lf (o152 P)) (lf (o216 P))) (.node (o120 P) (lf (o184 P)) .nil)))) (.node (o12_2 P) (.node (o20 P) (.node (o36 P) (.node (o68 P) (lf (o132 P)) (lf (o196 P))) (.node (o100 P) (lf (o164 P)) (lf (o228 P)))) (.node (o52 P) (.node (o84 P) (lf (o148 P)) (lf (o212 P))) (.node (o116 P) (lf (o180 P)) .nil))) (.node (o28 P) (.node (o44 P) (.node (o76 P) (lf (o140 P)) (lf (o204 P))) (.node (o108 P) (lf (o172 P)) .nil)) (.node (o60 P) (.node (o92 P) (lf (o156 P)) (lf (o220 P))) (.node (o124 P) (lf (o188 P)) .nil))))) (.node (boot_o_6 P) (.node (boot_o_10 P) (.node (o18 P) (.node (o34 P) (.node (o66 P) (lf (o130 P)) (lf (o194 P))) (.node (o98 P) (lf (o162 P)) (lf (o226 P)))) (.node (o50 P) (.node (o82 P) (lf (o146 P)) (lf (o210 P))) (.node (o114 P) (lf (o178 P)) .nil))) (.node (o26 P) (.node (o42 P) (.node (o74 P) (lf (o138 P)) (lf (o202 P))) (.node (o106 P) (lf (o170 P)) .nil)) (.node (o58 P) (.node (o90 P) (lf (o154 P)) (lf (o218 P))) (.node (o122 P) (lf (o186 P)) .nil)))) (.node (o14 P) (.node (o22 P) (.node (o38 P) (.node (o70 P) (lf (o134 P)) (lf (o198 P))) (.node (o102 P) (lf (o166 P)) (lf (so d1)))) (.node (o54 P) (.node (o86 P) (lf (o150 P)) (lf (o214 P))) (.node (o118 P) (lf (o182 P)) .nil))) (.node (o30 P) (.node (o46 P) (.node (o78 P) (lf (o142 P)) (lf (o206 P))) (.node (o110 P) (lf (o174 P)) .nil)) (.node (o62 P) (.node (o94 P) (lf (o158 P)) (lf (o222 P))) (.node (o126 P) (lf (o190 P)) .nil)))))))
noncomputable def sC2a (P : Params) (d1 d2 : Data) (T : Nat) (os : OsState) : SharedT := ⟨TC2a P d1 d2, 232, {}, #[], {}, T, os⟩
noncomputable def o225_2 (P : Params) : Obj := ⟨(.type "dict"), none, (.dict #[en P "__module__" 468 (.str (Str.ofString "snowballstemmer.swedish_stemmer") 459), en P "__qualname__" 470 (.str (Str.ofString "SwedishStemmer") 469), en P "__firstlineno__" 472 (.int 168 471), en P "g_v" 491 (.ref 230), en P "g_s_ending" 526 (.ref 231)] 5), #[]⟩
noncomputable def TC2 (P : Params) (d1 d2 : Data) : BT := (.node (boot_o_0 P) (.node (boot_o_1 P) (.node (o3_1 P) (.node (boot_o_7 P) (.node (o15 P) (.node (o31 P) (.node (o63 P) (lf (o127 P)) (lf (o191 P))) (.node (o95 P) (lf (o159 P)) (lf (o223 P)))) (.node (o47 P) (.node (o79 P) (lf (o143 P)) (lf (o207 P))) (.node (o111 P) (lf (o175 P)) .nil))) (.node (o23 P) (.node (o39 P) (.node (o71 P) (lf (o135 P)) (lf (o199 P))) (.node (o103 P) (lf (o167 P)) (lf (so d2)))) (.node (o55 P) (.node (o87 P) (lf (o151 P)) (lf (o215 P))) (.node (o119 P) (lf (o183 P)) .nil)))) (.node (o11 P) (.node (o19 P) (.node (o35 P) (.node (o67 P) (lf (o131 P)) (lf (o195 P))) (.node (o99 P) (lf (o163 P)) (lf (o227 P)))) (.node (o51 P) (.node (o83 P) (lf (o147 P)) (lf (o211 P))) (.node (o115 P) (lf (o179 P)) .nil))) (.node (o27 P) (.node (o43 P) (.node (o75 P) (lf (o139 P)) (lf (o203 P))) (.node (o107 P) (lf (o171 P)) .nil)) (.node (o59 P) (.node (o91 P) (lf (o155 P)) (lf (o219 P))) (.node (o123 P) (lf (o187 P)) .nil))))) (.node (boot_o_5 P) (.node (boot_o_9 P) (.node (o17 P) (.node (o33 P) (.node (o65 P) (lf (o129 P)) (lf (o193 P))) (.node (o97 P) (lf (o161 P)) (lf (o225_2 P)))) (.node (o49 P) (.node (o81 P) (lf (o145 P)) (lf (o209 P))) (.node (o113 P) (lf (o177 P)) .nil))) (.node (o25 P) (.node (o41 P) (.node (o73 P) (lf (o137 P)) (lf (o201 P))) (.node (o105 P) (lf (o169 P)) .nil)) (.node (o57 P) (.node (o89 P) (lf (o153 P)) (lf (o217 P))) (.node (o121 P) (lf (o185 P)) .nil)))) (.node (o13 P) (.node (o21 P) (.node (o37 P) (.node (o69 P) (lf (o133 P)) (lf (o197 P))) (.node (o101 P) (lf (o165 P)) (lf (o229 P)))) (.node (o53 P) (.node (o85 P) (lf (o149 P)) (lf (o213 P))) (.node (o117 P) (lf (o181 P)) .nil))) (.node (o29 P) (.node (o45 P) (.node (o77 P) (lf (o141 P)) (lf (o205 P))) (.node (o109 P) (lf (o173 P)) .nil)) (.node (o61 P) (.node (o93 P) (lf (o157 P)) (lf (o221 P))) (.node (o125 P) (lf (o189 P)) .nil)))))) (.node (o2 P) (.node (boot_o_4 P) (.node (boot_o_8 P) (.node (o16 P) (.node (o32 P) (.node (o64 P) (lf (o128 P)) (lf (o192 P))) (.node (o96 P) (lf (o160 P)) (lf (o224 P)))) (.node (o48 P) (.node (o80 P) (lf (o144 P)) (lf (o208 P))) (.node (o112 P) (lf (o176 P)) .nil))) (.node (o24 P) (.node (o40 P) (.node (o72 P) (lf (o136 P)) (lf (o200 P))) (.node (o104 P) (lf (o168 P)) .nil)) (.node (o56 P) (.node (o88 P) (lf (o152 P)) (lf (o216 P))) (.node (o120 P) (lf (o184 P)) .nil)))) (.node (o12_2 P) (.node (o20 P) (.node (o36 P) (.node (o68 P) (lf (o132 P)) (lf (o196 P))) (.node (o100 P) (lf (o164 P)) (lf (o228 P)))) (.node (o52 P) (.node (o84 P) (lf (o148 P)) (lf (o212 P))) (.node (o116 P) (lf (o180 P)) .nil))) (.node (o28 P) (.node (o44 P) (.node (o76 P) (lf (o140 P)) (lf (o204 P))) (.node (o108 P) (lf (o172 P)) .nil)) (.node (o60 P) (.node (o92 P) (lf (o156 P)) (lf (o220 P))) (.node (o124 P) (lf (o188 P)) .nil))))) (.node (boot_o_6 P) (.node (boot_o_10 P) (.node (o18 P) (.node (o34 P) (.node (o66 P) (lf (o130 P)) (lf (o194 P))) (.node (o98 P) (lf (o162 P)) (lf (o226 P)))) (.node (o50 P) (.node (o82 P) (lf (o146 P)) (lf (o210 P))) (.node (o114 P) (lf (o178 P)) .nil))) (.node (o26 P) (.node (o42 P) (.node (o74 P) (lf (o138 P)) (lf (o202 P))) (.node (o106 P) (lf (o170 P)) .nil)) (.node (o58 P) (.node (o90 P) (lf (o154 P)) (lf (o218 P))) (.node (o122 P) (lf (o186 P)) .nil)))) (.node (o14 P) (.node (o22 P) (.node (o38 P) (.node (o70 P) (lf (o134 P)) (lf (o198 P))) (.node (o102 P) (lf (o166 P)) (lf (so d1)))) (.node (o54 P) (.node (o86 P) (lf (o150 P)) (lf (o214 P))) (.node (o118 P) (lf (o182 P)) .nil))) (.node (o30 P) (.node (o46 P) (.node (o78 P) (lf (o142 P)) (lf (o206 P))) (.node (o110 P) (lf (o174 P)) .nil)) (.node (o62 P) (.node (o94 P) (lf (o158 P)) (lf (o222 P))) (.node (o126 P) (lf (o190 P)) .nil)))))))
noncomputable def sC2 (P : Params) (d1 d2 : Data) (T : Nat) (os : OsState) : SharedT := ⟨TC2 P d1 d2, 232, {}, #[], {}, T, os⟩
noncomputable def TC3a (P : Params) (d1 d2 d3 : Data) : BT := (.node (boot_o_0 P) (.node (boot_o_1 P) (.node (o3_1 P) (.node (boot_o_7 P) (.node (o15 P) (.node (o31 P) (.node (o63 P) (lf (o127 P)) (lf (o191 P))) (.node (o95 P) (lf (o159 P)) (lf (o223 P)))) (.node (o47 P) (.node (o79 P) (lf (o143 P)) (lf (o207 P))) (.node (o111 P) (lf (o175 P)) .nil))) (.node (o23 P) (.node (o39 P) (.node (o71 P) (lf (o135 P)) (lf (o199 P))) (.node (o103 P) (lf (o167 P)) (lf (so d2)))) (.node (o55 P) (.node (o87 P) (lf (o151 P)) (lf (o215 P))) (.node (o119 P) (lf (o183 P)) .nil)))) (.node (o11 P) (.node (o19 P) (.node (o35 P) (.node (o67 P) (lf (o131 P)) (lf (o195 P))) (.node (o99 P) (lf (o163 P)) (lf (o227 P)))) (.node (o51 P) (.node (o83 P) (lf (o147 P)) (lf (o211 P))) (.node (o115 P) (lf (o179 P)) .nil))) (.node (o27 P) (.node (o43 P) (.node (o75 P) (lf (o139 P)) (lf (o203 P))) (.node (o107 P) (lf (o171 P)) .nil)) (.node (o59 P) (.node (o91 P) (lf (o155 P)) (lf (o219 P))) (.node (o123 P) (lf (o187 P)) .nil))))) (.node (boot_o_5 P) (.node (boot_o_9 P) (.node (o17 P) (.node (o33 P) (.node (o65 P) (lf (o129 P)) (lf (o193 P))) (.node (o97 P) (lf (o161 P)) (lf (o225_2 P)))) (.node (o49 P) (.node (o81 P) (lf (o145 P)) (lf (o209 P))) (.node (o113 P) (lf (o177 P)) .nil))) (.node (o25 P) (.node (o41 P) (.node (o73 P) (lf (o137 P)) (lf (o201 P))) (.node (o105 P) (lf (o169 P)) .nil)) (.node (o57 P) (.node (o89 P) (lf (o153 P)) (lf (o217 P))) (.node (o121 P) (lf (o185 P)) .nil)))) (.node (o13 P) (.node (o21 P) (.node (o37 P) (.node (o69 P) (lf (o133 P)) (lf (o197 P))) (.node (o101 P) (lf (o165 P)) (lf (o229 P)))) (.node (o53 P) (.node (o85 P) (lf (o149 P)) (lf (o213 P))) (.node (o117 P) (lf (o181 P)) .nil))) (.node (o29 P) (.node (o45 P) (.node (o77 P) (lf (o141 P)) (lf (o205 P))) (.node (o109 P) (lf (o173 P)) .nil)) (.node (o61 P) (.node (o93 P) (lf (o157 P)) (lf (o221 P))) (.node (o125 P) (lf (o189 P)) .nil)))))) (.node (o2 P) (.node (boot_o_4 P) (.node (boot_o_8 P) (.node (o16 P) (.node (o32 P) (.node (o64 P) (lf (o128 P)) (lf (o192 P))) (.node (o96 P) (lf (o160 P)) (lf (o224 P)))) (.node (o48 P) (.node (o80 P) (lf (o144 P)) (lf (o208 P))) (.node (o112 P) (lf (o176 P)) .nil))) (.node (o24 P) (.node (o40 P) (.node (o72 P) (lf (o136 P)) (lf (o200 P))) (.node (o104 P) (lf (o168 P)) (lf (so d3)))) (.node (o56 P) (.node (o88 P) (lf (o152 P)) (lf (o216 P))) (.node (o120 P) (lf (o184 P)) .nil)))) (.node (o12_2 P) (.node (o20 P) (.node (o36 P) (.node (o68 P) (lf (o132 P)) (lf (o196 P))) (.node (o100 P) (lf (o164 P)) (lf (o228 P)))) (.node (o52 P) (.node (o84 P) (lf (o148 P)) (lf (o212 P))) (.node (o116 P) (lf (o180 P)) .nil))) (.node (o28 P) (.node (o44 P) (.node (o76 P) (lf (o140 P)) (lf (o204 P))) (.node (o108 P) (lf (o172 P)) .nil)) (.node (o60 P) (.node (o92 P) (lf (o156 P)) (lf (o220 P))) (.node (o124 P) (lf (o188 P)) .nil))))) (.node (boot_o_6 P) (.node (boot_o_10 P) (.node (o18 P) (.node (o34 P) (.node (o66 P) (lf (o130 P)) (lf (o194 P))) (.node (o98 P) (lf (o162 P)) (lf (o226 P)))) (.node (o50 P) (.node (o82 P) (lf (o146 P)) (lf (o210 P))) (.node (o114 P) (lf (o178 P)) .nil))) (.node (o26 P) (.node (o42 P) (.node (o74 P) (lf (o138 P)) (lf (o202 P))) (.node (o106 P) (lf (o170 P)) .nil)) (.node (o58 P) (.node (o90 P) (lf (o154 P)) (lf (o218 P))) (.node (o122 P) (lf (o186 P)) .nil)))) (.node (o14 P) (.node (o22 P) (.node (o38 P) (.node (o70 P) (lf (o134 P)) (lf (o198 P))) (.node (o102 P) (lf (o166 P)) (lf (so d1)))) (.node (o54 P) (.node (o86 P) (lf (o150 P)) (lf (o214 P))) (.node (o118 P) (lf (o182 P)) .nil))) (.node (o30 P) (.node (o46 P) (.node (o78 P) (lf (o142 P)) (lf (o206 P))) (.node (o110 P) (lf (o174 P)) .nil)) (.node (o62 P) (.node (o94 P) (lf (o158 P)) (lf (o222 P))) (.node (o126 P) (lf (o190 P)) .nil)))))))
noncomputable def sC3a (P : Params) (d1 d2 d3 : Data) (T : Nat) (os : OsState) : SharedT := ⟨TC3a P d1 d2 d3, 233, {}, #[], {}, T, os⟩
noncomputable def o225_3 (P : Params) : Obj := ⟨(.type "dict"), none, (.dict #[en P "__module__" 468 (.str (Str.ofString "snowballstemmer.swedish_stemmer") 459), en P "__qualname__" 470 (.str (Str.ofString "SwedishStemmer") 469), en P "__firstlineno__" 472 (.int 168 471), en P "g_v" 491 (.ref 230), en P "g_s_ending" 526 (.ref 231), en P "g_ost_ending" 545 (.ref 232)] 6), #[]⟩
noncomputable def TC3 (P : Params) (d1 d2 d3 : Data) : BT := (.node (boot_o_0 P) (.node (boot_o_1 P) (.node (o3_1 P) (.node (boot_o_7 P) (.node (o15 P) (.node (o31 P) (.node (o63 P) (lf (o127 P)) (lf (o191 P))) (.node (o95 P) (lf (o159 P)) (lf (o223 P)))) (.node (o47 P) (.node (o79 P) (lf (o143 P)) (lf (o207 P))) (.node (o111 P) (lf (o175 P)) .nil))) (.node (o23 P) (.node (o39 P) (.node (o71 P) (lf (o135 P)) (lf (o199 P))) (.node (o103 P) (lf (o167 P)) (lf (so d2)))) (.node (o55 P) (.node (o87 P) (lf (o151 P)) (lf (o215 P))) (.node (o119 P) (lf (o183 P)) .nil)))) (.node (o11 P) (.node (o19 P) (.node (o35 P) (.node (o67 P) (lf (o131 P)) (lf (o195 P))) (.node (o99 P) (lf (o163 P)) (lf (o227 P)))) (.node (o51 P) (.node (o83 P) (lf (o147 P)) (lf (o211 P))) (.node (o115 P) (lf (o179 P)) .nil))) (.node (o27 P) (.node (o43 P) (.node (o75 P) (lf (o139 P)) (lf (o203 P))) (.node (o107 P) (lf (o171 P)) .nil)) (.node (o59 P) (.node (o91 P) (lf (o155 P)) (lf (o219 P))) (.node (o123 P) (lf (o187 P)) .nil))))) (.node (boot_o_5 P) (.node (boot_o_9 P) (.node (o17 P) (.node (o33 P) (.node (o65 P) (lf (o129 P)) (lf (o193 P))) (.node (o97 P) (lf (o161 P)) (lf (o225_3 P)))) (.node (o49 P) (.node (o81 P) (lf (o145 P)) (lf (o209 P))) (.node (o113 P) (lf (o177 P)) .nil))) (.node (o25 P) (.node (o41 P) (.node (o73 P) (lf (o137 P)) (lf (o201 P))) (.node (o105 P) (lf (o169 P)) .nil)) (.node (o57 P) (.node (o89 P) (lf (o153 P)) (lf (o217 P))) (.node (o121 P) (lf (o185 P)) .nil)))) (.node (o13 P) (.node (o21 P) (.node (o37 P) (.node (o69 P) (lf (o133 P)) (lf (o197 P))) (.node (o101 P) (lf (o165 P)) (lf (o229 P)))) (.node (o53 P) (.node (o85 P) (lf (o149 P)) (lf (o213 P))) (.node (o117 P) (lf (o181 P)) .nil))) (.node (o29 P) (.node (o45 P) (.node (o77 P) (lf (o141 P)) (lf (o205 P))) (.node (o109 P) (lf (o173 P)) .nil)) (.node (o61 P) (.node (o93 P) (lf (o157 P)) (lf (o221 P))) (.node (o125 P) (lf (o189 P)) .nil)))))) (.node (o2 P) (.node (boot_o_4 P) (.node (boot_o_8 P) (.node (o16 P) (.node (o32 P) (.node (o64 P) (lf (o128 P)) (lf (o192 P))) (.node (o96 P) (lf (o160 P)) (lf (o224 P)))) (.node (o48 P) (.node (o80 P) (lf (o144 P)) (lf (o208 P))) (.node (o112 P) (lf (o176 P)) .nil))) (.node (o24 P) (.node (o40 P) (.node (o72 P) (lf (o136 P)) (lf (o200 P))) (.node (o104 P) (lf (o168 P)) (lf (so d3)))) (.node (o56 P) (.node (o88 P) (lf (o152 P)) (lf (o216 P))) (.node (o120 P) (lf (o184 P)) .nil)))) (.node (o12_2 P) (.node (o20 P) (.node (o36 P) (.node (o68 P) (lf (o132 P)) (lf (o196 P))) (.node (o100 P) (lf (o164 P)) (lf (o228 P)))) (.node (o52 P) (.node (o84 P) (lf (o148 P)) (lf (o212 P))) (.node (o116 P) (lf (o180 P)) .nil))) (.node (o28 P) (.node (o44 P) (.node (o76 P) (lf (o140 P)) (lf (o204 P))) (.node (o108 P) (lf (o172 P)) .nil)) (.node (o60 P) (.node (o92 P) (lf (o156 P)) (lf (o220 P))) (.node (o124 P) (lf (o188 P)) .nil))))) (.node (boot_o_6 P) (.node (boot_o_10 P) (.node (o18 P) (.node (o34 P) (.node (o66 P) (lf (o130 P)) (lf (o194 P))) (.node (o98 P) (lf (o162 P)) (lf (o226 P)))) (.node (o50 P) (.node (o82 P) (lf (o146 P)) (lf (o210 P))) (.node (o114 P) (lf (o178 P)) .nil))) (.node (o26 P) (.node (o42 P) (.node (o74 P) (lf (o138 P)) (lf (o202 P))) (.node (o106 P) (lf (o170 P)) .nil)) (.node (o58 P) (.node (o90 P) (lf (o154 P)) (lf (o218 P))) (.node (o122 P) (lf (o186 P)) .nil)))) (.node (o14 P) (.node (o22 P) (.node (o38 P) (.node (o70 P) (lf (o134 P)) (lf (o198 P))) (.node (o102 P) (lf (o166 P)) (lf (so d1)))) (.node (o54 P) (.node (o86 P) (lf (o150 P)) (lf (o214 P))) (.node (o118 P) (lf (o182 P)) .nil))) (.node (o30 P) (.node (o46 P) (.node (o78 P) (lf (o142 P)) (lf (o206 P))) (.node (o110 P) (lf (o174 P)) .nil)) (.node (o62 P) (.node (o94 P) (lf (o158 P)) (lf (o222 P))) (.node (o126 P) (lf (o190 P)) .nil)))))))
noncomputable def sC3 (P : Params) (d1 d2 d3 : Data) (T : Nat) (os : OsState) : SharedT := ⟨TC3 P d1 d2 d3, 233, {}, #[], {}, T, os⟩
noncomputable def o225_4 (P : Params) : Obj := ⟨(.type "dict"), none, (.dict #[en P "__module__" 468 (.str (Str.ofString "snowballstemmer.swedish_stemmer") 459), en P "__qualname__" 470 (.str (Str.ofString "SwedishStemmer") 469), en P "__firstlineno__" 472 (.int 168 471), en P "g_v" 491 (.ref 230), en P "g_s_ending" 526 (.ref 231), en P "g_ost_ending" 545 (.ref 232), en P "I_p1" 547 (.int 0 546), en P "r_mark_regions" 556 (.ref 239), en P "r_et_condition" 565 (.ref 246), en P "r_main_suffix" 575 (.ref 253), en P "r_consonant_pair" 584 (.ref 260), en P "r_other_suffix" 593 (.ref 267), en P "_stem" 604 (.ref 274)] 13), #[]⟩
noncomputable def o227_1 (P : Params) : Obj := ⟨.none, none, (.fields #[(.int 174 0), (.int 4 0), (.ref 238), (.int 197 0), (.int 4 0), (.ref 245), (.int 216 0), (.int 4 0), (.ref 252), (.int 253 0), (.int 4 0), (.ref 259), (.int 273 0), (.int 4 0), (.ref 266), (.int 295 0), (.int 4 0), (.ref 273)]), #[]⟩
noncomputable def o233 (P : Params) : Obj := ⟨(.type "tuple"), none, (.seq #[] 0), #[]⟩
noncomputable def o234 (P : Params) : Obj := ⟨.none, none, (.fields #[]), #[]⟩
noncomputable def o235 (P : Params) : Obj := ⟨(.type "tuple"), none, (.seq #[(.str (Str.ofString "self") 551), (.str (Str.ofString "v_1") 552), (.str (Str.ofString "I_x") 553)] 0), #[]⟩
noncomputable def o236 (P : Params) : Obj := ⟨(.type "tuple"), none, (.seq #[] 0), #[]⟩
noncomputable def o237 (P : Params) : Obj := ⟨.none, none, (fnD (meth 6 4) (Str.ofString "SwedishStemmer.r_mark_regions") 0 .none .none), #[]⟩
noncomputable def o238 (P : Params) : Obj := ⟨(.type "code"), none, (.fields #[(.str (Str.ofString "r_mark_regions") 548), (.str (Str.ofString "SwedishStemmer.r_mark_regions") 549), (.str (Str.ofString "/claim/cut.py") 550), (.int 174 0), (.int 1 0), (.int 0 0), (.int 0 0), (.int 3 0), (.ref 233), (.bool true), (.int 181 0), (.ref 234), .none, (.ref 235), (.ref 236), (.ref 237), (.int 554 0), (.int 174 0), (.str (Str.ofString "/claim/cut.py") 555)]), #[]⟩
noncomputable def o239 (P : Params) : Obj := ⟨(.type "function"), none, (fnD (meth 6 4) (Str.ofString "SwedishStemmer.r_mark_regions") 3 (.str (Str.ofString "snowballstemmer.swedish_stemmer") 459) (.ref 238)), #[]⟩
noncomputable def o240 (P : Params) : Obj := ⟨(.type "tuple"), none, (.seq #[] 0), #[]⟩
noncomputable def o241 (P : Params) : Obj := ⟨.none, none, (.fields #[]), #[]⟩
noncomputable def o242 (P : Params) : Obj := ⟨(.type "tuple"), none, (.seq #[(.str (Str.ofString "self") 560), (.str (Str.ofString "v_1") 561), (.str (Str.ofString "v_2") 562)] 0), #[]⟩
noncomputable def o243 (P : Params) : Obj := ⟨(.type "tuple"), none, (.seq #[] 0), #[]⟩
noncomputable def o244 (P : Params) : Obj := ⟨.none, none, (fnD (meth 6 5) (Str.ofString "SwedishStemmer.r_et_condition") 0 .none .none), #[]⟩
noncomputable def o245 (P : Params) : Obj := ⟨(.type "code"), none, (.fields #[(.str (Str.ofString "r_et_condition") 557), (.str (Str.ofString "SwedishStemmer.r_et_condition") 558), (.str (Str.ofString "/claim/cut.py") 559), (.int 197 0), (.int 1 0), (.int 0 0), (.int 0 0), (.int 3 0), (.ref 240), (.bool true), (.int 181 0), (.ref 241), .none, (.ref 242), (.ref 243), (.ref 244), (.int 563 0), (.int 197 0), (.str (Str.ofString "/claim/cut.py") 564)]), #[]⟩
noncomputable def o246 (P : Params) : Obj := ⟨(.type "function"), none, (fnD (meth 6 5) (Str.ofString "SwedishStemmer.r_et_condition") 3 (.str (Str.ofString "snowballstemmer.swedish_stemmer") 459) (.ref 245)), #[]⟩
noncomputable def o247 (P : Params) : Obj := ⟨(.type "tuple"), none, (.seq #[] 0), #[]⟩
noncomputable def o248 (P : Params) : Obj := ⟨.none, none, (.fields #[]), #[]⟩
noncomputable def o249 (P : Params) : Obj := ⟨(.type "tuple"), none, (.seq #[(.str (Str.ofString "self") 569), (.str (Str.ofString "v_2") 570), (.str (Str.ofString "among_var") 571), (.str (Str.ofString "v_3") 572)] 0), #[]⟩
noncomputable def o250 (P : Params) : Obj := ⟨(.type "tuple"), none, (.seq #[] 0), #[]⟩
noncomputable def o251 (P : Params) : Obj := ⟨.none, none, (fnD (meth 6 6) (Str.ofString "SwedishStemmer.r_main_suffix") 0 .none .none), #[]⟩
noncomputable def o252 (P : Params) : Obj := ⟨(.type "code"), none, (.fields #[(.str (Str.ofString "r_main_suffix") 566), (.str (Str.ofString "SwedishStemmer.r_main_suffix") 567), (.str (Str.ofString "/claim/cut.py") 568), (.int 216 0), (.int 1 0), (.int 0 0), (.int 0 0), (.int 3 0), (.ref 247), (.bool true), (.int 181 0), (.ref 248), .none, (.ref 249), (.ref 250), (.ref 251), (.int 573 0), (.int 216 0), (.str (Str.ofString "/claim/cut.py") 574)]), #[]⟩
noncomputable def o253 (P : Params) : Obj := ⟨(.type "function"), none, (fnD (meth 6 6) (Str.ofString "SwedishStemmer.r_main_suffix") 3 (.str (Str.ofString "snowballstemmer.swedish_stemmer") 459) (.ref 252)), #[]⟩
noncomputable def o254 (P : Params) : Obj := ⟨(.type "tuple"), none, (.seq #[] 0), #[]⟩
noncomputable def o255 (P : Params) : Obj := ⟨.none, none, (.fields #[]), #[]⟩
noncomputable def o256 (P : Params) : Obj := ⟨(.type "tuple"), none, (.seq #[(.str (Str.ofString "self") 579), (.str (Str.ofString "v_2") 580), (.str (Str.ofString "v_3") 581)] 0), #[]⟩
noncomputable def o257 (P : Params) : Obj := ⟨(.type "tuple"), none, (.seq #[] 0), #[]⟩
noncomputable def o258 (P : Params) : Obj := ⟨.none, none, (fnD (meth 6 7) (Str.ofString "SwedishStemmer.r_consonant_pair") 0 .none .none), #[]⟩
noncomputable def o259 (P : Params) : Obj := ⟨(.type "code"), none, (.fields #[(.str (Str.ofString "r_consonant_pair") 576), (.str (Str.ofString "SwedishStemmer.r_consonant_pair") 577), (.str (Str.ofString "/claim/cut.py") 578), (.int 253 0), (.int 1 0), (.int 0 0), (.int 0 0), (.int 3 0), (.ref 254), (.bool true), (.int 181 0), (.ref 255), .none, (.ref 256), (.ref 257), (.ref 258), (.int 582 0), (.int 253 0), (.str (Str.ofString "/claim/cut.py") 583)]), #[]⟩
noncomputable def o260 (P : Params) : Obj := ⟨(.type "function"), none, (fnD (meth 6 7) (Str.ofString "SwedishStemmer.r_consonant_pair") 3 (.str (Str.ofString "snowballstemmer.swedish_stemmer") 459) (.ref 259)), #[]⟩
noncomputable def o261 (P : Params) : Obj := ⟨(.type "tuple"), none, (.seq #[] 0), #[]⟩
noncomputable def o262 (P : Params) : Obj := ⟨.none, none, (.fields #[]), #[]⟩
noncomputable def o263 (P : Params) : Obj := ⟨(.type "tuple"), none, (.seq #[(.str (Str.ofString "self") 588), (.str (Str.ofString "v_2") 589), (.str (Str.ofString "among_var") 590)] 0), #[]⟩
noncomputable def o264 (P : Params) : Obj := ⟨(.type "tuple"), none, (.seq #[] 0), #[]⟩
noncomputable def o265 (P : Params) : Obj := ⟨.none, none, (fnD (meth 6 8) (Str.ofString "SwedishStemmer.r_other_suffix") 0 .none .none), #[]⟩
noncomputable def o266 (P : Params) : Obj := ⟨(.type "code"), none, (.fields #[(.str (Str.ofString "r_other_suffix") 585), (.str (Str.ofString "SwedishStemmer.r_other_suffix") 586), (.str (Str.ofString "/claim/cut.py") 587), (.int 273 0), (.int 1 0), (.int 0 0), (.int 0 0), (.int 3 0), (.ref 261), (.bool true), (.int 181 0), (.ref 262), .none, (.ref 263), (.ref 264), (.ref 265), (.int 591 0), (.int 273 0), (.str (Str.ofString "/claim/cut.py") 592)]), #[]⟩
noncomputable def o267 (P : Params) : Obj := ⟨(.type "function"), none, (fnD (meth 6 8) (Str.ofString "SwedishStemmer.r_other_suffix") 3 (.str (Str.ofString "snowballstemmer.swedish_stemmer") 459) (.ref 266)), #[]⟩
noncomputable def o268 (P : Params) : Obj := ⟨(.type "tuple"), none, (.seq #[] 0), #[]⟩
noncomputable def o269 (P : Params) : Obj := ⟨.none, none, (.fields #[]), #[]⟩
noncomputable def o270 (P : Params) : Obj := ⟨(.type "tuple"), none, (.seq #[(.str (Str.ofString "self") 597), (.str (Str.ofString "v_1") 598), (.str (Str.ofString "v_2") 599), (.str (Str.ofString "v_3") 600), (.str (Str.ofString "v_4") 601)] 0), #[]⟩
noncomputable def o271 (P : Params) : Obj := ⟨(.type "tuple"), none, (.seq #[] 0), #[]⟩
noncomputable def o272 (P : Params) : Obj := ⟨.none, none, (fnD (meth 6 9) (Str.ofString "SwedishStemmer._stem") 0 .none .none), #[]⟩
noncomputable def o273 (P : Params) : Obj := ⟨(.type "code"), none, (.fields #[(.str (Str.ofString "_stem") 594), (.str (Str.ofString "SwedishStemmer._stem") 595), (.str (Str.ofString "/claim/cut.py") 596), (.int 295 0), (.int 1 0), (.int 0 0), (.int 0 0), (.int 3 0), (.ref 268), (.bool true), (.int 181 0), (.ref 269), .none, (.ref 270), (.ref 271), (.ref 272), (.int 602 0), (.int 295 0), (.str (Str.ofString "/claim/cut.py") 603)]), #[]⟩
noncomputable def o274 (P : Params) : Obj := ⟨(.type "function"), none, (fnD (meth 6 9) (Str.ofString "SwedishStemmer._stem") 3 (.str (Str.ofString "snowballstemmer.swedish_stemmer") 459) (.ref 273)), #[]⟩
noncomputable def TC10 (P : Params) (d1 d2 d3 : Data) : BT := (.node (boot_o_0 P) (.node (boot_o_1 P) (.node (o3_1 P) (.node (boot_o_7 P) (.node (o15 P) (.node (o31 P) (.node (o63 P) (.node (o127 P) (lf (o255 P)) .nil) (lf (o191 P))) (.node (o95 P) (lf (o159 P)) (lf (o223 P)))) (.node (o47 P) (.node (o79 P) (.node (o143 P) (lf (o271 P)) .nil) (lf (o207 P))) (.node (o111 P) (lf (o175 P)) (lf (o239 P))))) (.node (o23 P) (.node (o39 P) (.node (o71 P) (.node (o135 P) (lf (o263 P)) .nil) (lf (o199 P))) (.node (o103 P) (lf (o167 P)) (lf (so d2)))) (.node (o55 P) (.node (o87 P) (lf (o151 P)) (lf (o215 P))) (.node (o119 P) (lf (o183 P)) (lf (o247 P)))))) (.node (o11 P) (.node (o19 P) (.node (o35 P) (.node (o67 P) (.node (o131 P) (lf (o259 P)) .nil) (lf (o195 P))) (.node (o99 P) (lf (o163 P)) (lf (o227_1 P)))) (.node (o51 P) (.node (o83 P) (lf (o147 P)) (lf (o211 P))) (.node (o115 P) (lf (o179 P)) (lf (o243 P))))) (.node (o27 P) (.node (o43 P) (.node (o75 P) (.node (o139 P) (lf (o267 P)) .nil) (lf (o203 P))) (.node (o107 P) (lf (o171 P)) (lf (o235 P)))) (.node (o59 P) (.node (o91 P) (lf (o155 P)) (lf (o219 P))) (.node (o123 P) (lf (o187 P)) (lf (o251 P))))))) (.node (boot_o_5 P) (.node (boot_o_9 P) (.node (o17 P) (.node (o33 P) (.node (o65 P) (.node (o129 P) (lf (o257 P)) .nil) (lf (o193 P))) (.node (o97 P) (lf (o161 P)) (lf (o225_4 P)))) (.node (o49 P) (.node (o81 P) (.node (o145 P) (lf (o273 P)) .nil) (lf (o209 P))) (.node (o113 P) (lf (o177 P)) (lf (o241 P))))) (.node (o25 P) (.node (o41 P) (.node (o73 P) (.node (o137 P) (lf (o265 P)) .nil) (lf (o201 P))) (.node (o105 P) (lf (o169 P)) (lf (o233 P)))) (.node (o57 P) (.node (o89 P) (lf (o153 P)) (lf (o217 P))) (.node (o121 P) (lf (o185 P)) (lf (o249 P)))))) (.node (o13 P) (.node (o21 P) (.node (o37 P) (.node (o69 P) (.node (o133 P) (lf (o261 P)) .nil) (lf (o197 P))) (.node (o101 P) (lf (o165 P)) (lf (o229 P)))) (.node (o53 P) (.node (o85 P) (lf (o149 P)) (lf (o213 P))) (.node (o117 P) (lf (o181 P)) (lf (o245 P))))) (.node (o29 P) (.node (o45 P) (.node (o77 P) (.node (o141 P) (lf (o269 P)) .nil) (lf (o205 P))) (.node (o109 P) (lf (o173 P)) (lf (o237 P)))) (.node (o61 P) (.node (o93 P) (lf (o157 P)) (lf (o221 P))) (.node (o125 P) (lf (o189 P)) (lf (o253 P)))))))) (.node (o2 P) (.node (boot_o_4 P) (.node (boot_o_8 P) (.node (o16 P) (.node (o32 P) (.node (o64 P) (.node (o128 P) (lf (o256 P)) .nil) (lf (o192 P))) (.node (o96 P) (lf (o160 P)) (lf (o224 P)))) (.node (o48 P) (.node (o80 P) (.node (o144 P) (lf (o272 P)) .nil) (lf (o208 P))) (.node (o112 P) (lf (o176 P)) (lf (o240 P))))) (.node (o24 P) (.node (o40 P) (.node (o72 P) (.node (o136 P) (lf (o264 P)) .nil) (lf (o200 P))) (.node (o104 P) (lf (o168 P)) (lf (so d3)))) (.node (o56 P) (.node (o88 P) (lf (o152 P)) (lf (o216 P))) (.node (o120 P) (lf (o184 P)) (lf (o248 P)))))) (.node (o12_2 P) (.node (o20 P) (.node (o36 P) (.node (o68 P) (.node (o132 P) (lf (o260 P)) .nil) (lf (o196 P))) (.node (o100 P) (lf (o164 P)) (lf (o228 P)))) (.node (o52 P) (.node (o84 P) (lf (o148 P)) (lf (o212 P))) (.node (o116 P) (lf (o180 P)) (lf (o244 P))))) (.node (o28 P) (.node (o44 P) (.node (o76 P) (.node (o140 P) (lf (o268 P)) .nil) (lf (o204 P))) (.node (o108 P) (lf (o172 P)) (lf (o236 P)))) (.node (o60 P) (.node (o92 P) (lf (o156 P)) (lf (o220 P))) (.node (o124 P) (lf (o188 P)) (lf (o252 P))))))) (.node (boot_o_6 P) (.node (boot_o_10 P) (.node (o18 P) (.node (o34 P) (.node (o66 P) (.node (o130 P) (lf (o258 P)) .nil) (lf (o194 P))) (.node (o98 P) (lf (o162 P)) (lf (o226 P)))) (.node (o50 P) (.node (o82 P) (.node (o146 P) (lf (o274 P)) .nil) (lf (o210 P))) (.node (o114 P) (lf (o178 P)) (lf (o242 P))))) (.node (o26 P) (.node (o42 P) (.node (o74 P) (.node (o138 P) (lf (o266 P)) .nil) (lf (o202 P))) (.node (o106 P) (lf (o170 P)) (lf (o234 P)))) (.node (o58 P) (.node (o90 P) (lf (o154 P)) (lf (o218 P))) (.node (o122 P) (lf (o186 P)) (lf (o250 P)))))) (.node (o14 P) (.node (o22 P) (.node (o38 P) (.node (o70 P) (.node (o134 P) (lf (o262 P)) .nil) (lf (o198 P))) (.node (o102 P) (lf (o166 P)) (lf (so d1)))) (.node (o54 P) (.node (o86 P) (lf (o150 P)) (lf (o214 P))) (.node (o118 P) (lf (o182 P)) (lf (o246 P))))) (.node (o30 P) (.node (o46 P) (.node (o78 P) (.node (o142 P) (lf (o270 P)) .nil) (lf (o206 P))) (.node (o110 P) (lf (o174 P)) (lf (o238 P)))) (.node (o62 P) (.node (o94 P) (lf (o158 P)) (lf (o222 P))) (.node (o126 P) (lf (o190 P)) (lf (o254 P)))))))))
noncomputable def sC10 (P : Params) (d1 d2 d3 : Data) (T : Nat) (os : OsState) : SharedT := ⟨TC10 P d1 d2 d3, 275, {}, #[], {}, T, os⟩
noncomputable def o225_5 (P : Params) : Obj := ⟨(.type "dict"), none, (.dict #[en P "__module__" 468 (.str (Str.ofString "snowballstemmer.swedish_stemmer") 459), en P "__qualname__" 470 (.str (Str.ofString "SwedishStemmer") 469), en P "__firstlineno__" 472 (.int 168 471), en P "g_v" 491 (.ref 230), en P "g_s_ending" 526 (.ref 231), en P "g_ost_ending" 545 (.ref 232), en P "I_p1" 547 (.int 0 546), en P "r_mark_regions" 556 (.ref 239), en P "r_et_condition" 565 (.ref 246), en P "r_main_suffix" 575 (.ref 253), en P "r_consonant_pair" 584 (.ref 260), en P "r_other_suffix" 593 (.ref 267), en P "_stem" 604 (.ref 274), en P "a_0" 920 (.ref 338)] 14), #[]⟩
noncomputable def o275 (P : Params) : Obj := ⟨(.type "dict"), none, (.dict #[en P "s" 615 (.str (Str.ofString "fab") 605), en P "substring_i" 617 (.int (-1) 607), en P "result" 619 (.int (-1) 609)] 3), #[]⟩
noncomputable def o276 (P : Params) : Obj := ⟨(.ref 218), some 275, .plain, #[]⟩
noncomputable def o277 (P : Params) : Obj := ⟨(.type "frame"), none, (.dict #[en P "self" 610 (.ref 276), en P "s" 611 (.str (Str.ofString "fab") 605), en P "substring_i" 612 (.int (-1) 607), en P "result" 613 (.int (-1) 609)] 4), #[]⟩
noncomputable def o278 (P : Params) : Obj := ⟨(.type "dict"), none, (.dict #[en P "s" 630 (.str (Str.ofString "h") 620), en P "substring_i" 632 (.int (-1) 622), en P "result" 634 (.int (-1) 624)] 3), #[]⟩
noncomputable def o279 (P : Params) : Obj := ⟨(.ref 218), some 278, .plain, #[]⟩
noncomputable def o280 (P : Params) : Obj := ⟨(.type "frame"), none, (.dict #[en P "self" 625 (.ref 279), en P "s" 626 (.str (Str.ofString "h") 620), en P "substring_i" 627 (.int (-1) 622), en P "result" 628 (.int (-1) 624)] 4), #[]⟩
noncomputable def o281 (P : Params) : Obj := ⟨(.type "dict"), none, (.dict #[en P "s" 645 (.str (Str.ofString "pak") 635), en P "substring_i" 647 (.int (-1) 637), en P "result" 649 (.int (-1) 639)] 3), #[]⟩
noncomputable def o282 (P : Params) : Obj := ⟨(.ref 218), some 281, .plain, #[]⟩
noncomputable def o283 (P : Params) : Obj := ⟨(.type "frame"), none, (.dict #[en P "self" 640 (.ref 282), en P "s" 641 (.str (Str.ofString "pak") 635), en P "substring_i" 642 (.int (-1) 637), en P "result" 643 (.int (-1) 639)] 4), #[]⟩
noncomputable def o284 (P : Params) : Obj := ⟨(.type "dict"), none, (.dict #[en P "s" 660 (.str (Str.ofString "rak") 650), en P "substring_i" 662 (.int (-1) 652), en P "result" 664 (.int (-1) 654)] 3), #[]⟩
noncomputable def o285 (P : Params) : Obj := ⟨(.ref 218), some 284, .plain, #[]⟩
noncomputable def o286 (P : Params) : Obj := ⟨(.type "frame"), none, (.dict #[en P "self" 655 (.ref 285), en P "s" 656 (.str (Str.ofString "rak") 650), en P "substring_i" 657 (.int (-1) 652), en P "result" 658 (.int (-1) 654)] 4), #[]⟩
noncomputable def o287 (P : Params) : Obj := ⟨(.type "dict"), none, (.dict #[en P "s" 675 (.str (Str.ofString "stak") 665), en P "substring_i" 677 (.int (-1) 667), en P "result" 679 (.int (-1) 669)] 3), #[]⟩
noncomputable def o288 (P : Params) : Obj := ⟨(.ref 218), some 287, .plain, #[]⟩
noncomputable def o289 (P : Params) : Obj := ⟨(.type "frame"), none, (.dict #[en P "self" 670 (.ref 288), en P "s" 671 (.str (Str.ofString "stak") 665), en P "substring_i" 672 (.int (-1) 667), en P "result" 673 (.int (-1) 669)] 4), #[]⟩
noncomputable def o290 (P : Params) : Obj := ⟨(.type "dict"), none, (.dict #[en P "s" 690 (.str (Str.ofString "kom") 680), en P "substring_i" 692 (.int (-1) 682), en P "result" 694 (.int (-1) 684)] 3), #[]⟩
noncomputable def o291 (P : Params) : Obj := ⟨(.ref 218), some 290, .plain, #[]⟩
noncomputable def o292 (P : Params) : Obj := ⟨(.type "frame"), none, (.dict #[en P "self" 685 (.ref 291), en P "s" 686 (.str (Str.ofString "kom") 680), en P "substring_i" 687 (.int (-1) 682), en P "result" 688 (.int (-1) 684)] 4), #[]⟩
noncomputable def o293 (P : Params) : Obj := ⟨(.type "dict"), none, (.dict #[en P "s" 705 (.str (Str.ofString "iet") 695), en P "substring_i" 707 (.int (-1) 697), en P "result" 709 (.int (-1) 699)] 3), #[]⟩
noncomputable def o294 (P : Params) : Obj := ⟨(.ref 218), some 293, .plain, #[]⟩
noncomputable def o295 (P : Params) : Obj := ⟨(.type "frame"), none, (.dict #[en P "self" 700 (.ref 294), en P "s" 701 (.str (Str.ofString "iet") 695), en P "substring_i" 702 (.int (-1) 697), en P "result" 703 (.int (-1) 699)] 4), #[]⟩
noncomputable def o296 (P : Params) : Obj := ⟨(.type "dict"), none, (.dict #[en P "s" 720 (.str (Str.ofString "cit") 710), en P "substring_i" 722 (.int (-1) 712), en P "result" 724 (.int (-1) 714)] 3), #[]⟩
noncomputable def o297 (P : Params) : Obj := ⟨(.ref 218), some 296, .plain, #[]⟩
noncomputable def o298 (P : Params) : Obj := ⟨(.type "frame"), none, (.dict #[en P "self" 715 (.ref 297), en P "s" 716 (.str (Str.ofString "cit") 710), en P "substring_i" 717 (.int (-1) 712), en P "result" 718 (.int (-1) 714)] 4), #[]⟩
noncomputable def o299 (P : Params) : Obj := ⟨(.type "dict"), none, (.dict #[en P "s" 735 (.str (Str.ofString "dit") 725), en P "substring_i" 737 (.int (-1) 727), en P "result" 739 (.int (-1) 729)] 3), #[]⟩
noncomputable def o300 (P : Params) : Obj := ⟨(.ref 218), some 299, .plain, #[]⟩
noncomputable def o301 (P : Params) : Obj := ⟨(.type "frame"), none, (.dict #[en P "self" 730 (.ref 300), en P "s" 731 (.str (Str.ofString "dit") 725), en P "substring_i" 732 (.int (-1) 727), en P "result" 733 (.int (-1) 729)] 4), #[]⟩
noncomputable def o302 (P : Params) : Obj := ⟨(.type "dict"), none, (.dict #[en P "s" 750 (.str (Str.ofString "alit") 740), en P "substring_i" 752 (.int (-1) 742), en P "result" 754 (.int (-1) 744)] 3), #[]⟩
noncomputable def o303 (P : Params) : Obj := ⟨(.ref 218), some 302, .plain, #[]⟩
noncomputable def o304 (P : Params) : Obj := ⟨(.type "frame"), none, (.dict #[en P "self" 745 (.ref 303), en P "s" 746 (.str (Str.ofString "alit") 740), en P "substring_i" 747 (.int (-1) 742), en P "result" 748 (.int (-1) 744)] 4), #[]⟩
noncomputable def o305 (P : Params) : Obj := ⟨(.type "dict"), none, (.dict #[en P "s" 765 (.str (Str.ofString "ilit") 755), en P "substring_i" 767 (.int (-1) 757), en P "result" 769 (.int (-1) 759)] 3), #[]⟩
noncomputable def o306 (P : Params) : Obj := ⟨(.ref 218), some 305, .plain, #[]⟩
noncomputable def o307 (P : Params) : Obj := ⟨(.type "frame"), none, (.dict #[en P "self" 760 (.ref 306), en P "s" 761 (.str (Str.ofString "ilit") 755), en P "substring_i" 762 (.int (-1) 757), en P "result" 763 (.int (-1) 759)] 4), #[]⟩
noncomputable def o308 (P : Params) : Obj := ⟨(.type "dict"), none, (.dict #[en P "s" 780 (.str (Str.ofString "mit") 770), en P "substring_i" 782 (.int (-1) 772), en P "result" 784 (.int (-1) 774)] 3), #[]⟩
noncomputable def o309 (P : Params) : Obj := ⟨(.ref 218), some 308, .plain, #[]⟩
noncomputable def o310 (P : Params) : Obj := ⟨(.type "frame"), none, (.dict #[en P "self" 775 (.ref 309), en P "s" 776 (.str (Str.ofString "mit") 770), en P "substring_i" 777 (.int (-1) 772), en P "result" 778 (.int (-1) 774)] 4), #[]⟩
noncomputable def o311 (P : Params) : Obj := ⟨(.type "dict"), none, (.dict #[en P "s" 795 (.str (Str.ofString "nit") 785), en P "substring_i" 797 (.int (-1) 787), en P "result" 799 (.int (-1) 789)] 3), #[]⟩
noncomputable def o312 (P : Params) : Obj := ⟨(.ref 218), some 311, .plain, #[]⟩
noncomputable def o313 (P : Params) : Obj := ⟨(.type "frame"), none, (.dict #[en P "self" 790 (.ref 312), en P "s" 791 (.str (Str.ofString "nit") 785), en P "substring_i" 792 (.int (-1) 787), en P "result" 793 (.int (-1) 789)] 4), #[]⟩
noncomputable def o314 (P : Params) : Obj := ⟨(.type "dict"), none, (.dict #[en P "s" 810 (.str (Str.ofString "pit") 800), en P "substring_i" 812 (.int (-1) 802), en P "result" 814 (.int (-1) 804)] 3), #[]⟩
noncomputable def o315 (P : Params) : Obj := ⟨(.ref 218), some 314, .plain, #[]⟩
noncomputable def o316 (P : Params) : Obj := ⟨(.type "frame"), none, (.dict #[en P "self" 805 (.ref 315), en P "s" 806 (.str (Str.ofString "pit") 800), en P "substring_i" 807 (.int (-1) 802), en P "result" 808 (.int (-1) 804)] 4), #[]⟩
noncomputable def o317 (P : Params) : Obj := ⟨(.type "dict"), none, (.dict #[en P "s" 825 (.str (Str.ofString "rit") 815), en P "substring_i" 827 (.int (-1) 817), en P "result" 829 (.int (-1) 819)] 3), #[]⟩
noncomputable def o318 (P : Params) : Obj := ⟨(.ref 218), some 317, .plain, #[]⟩
noncomputable def o319 (P : Params) : Obj := ⟨(.type "frame"), none, (.dict #[en P "self" 820 (.ref 318), en P "s" 821 (.str (Str.ofString "rit") 815), en P "substring_i" 822 (.int (-1) 817), en P "result" 823 (.int (-1) 819)] 4), #[]⟩
noncomputable def o320 (P : Params) : Obj := ⟨(.type "dict"), none, (.dict #[en P "s" 840 (.str (Str.ofString "sit") 830), en P "substring_i" 842 (.int (-1) 832), en P "result" 844 (.int (-1) 834)] 3), #[]⟩
noncomputable def o321 (P : Params) : Obj := ⟨(.ref 218), some 320, .plain, #[]⟩
noncomputable def o322 (P : Params) : Obj := ⟨(.type "frame"), none, (.dict #[en P "self" 835 (.ref 321), en P "s" 836 (.str (Str.ofString "sit") 830), en P "substring_i" 837 (.int (-1) 832), en P "result" 838 (.int (-1) 834)] 4), #[]⟩
noncomputable def o323 (P : Params) : Obj := ⟨(.type "dict"), none, (.dict #[en P "s" 855 (.str (Str.ofString "tit") 845), en P "substring_i" 857 (.int (-1) 847), en P "result" 859 (.int (-1) 849)] 3), #[]⟩
noncomputable def o324 (P : Params) : Obj := ⟨(.ref 218), some 323, .plain, #[]⟩
noncomputable def o325 (P : Params) : Obj := ⟨(.type "frame"), none, (.dict #[en P "self" 850 (.ref 324), en P "s" 851 (.str (Str.ofString "tit") 845), en P "substring_i" 852 (.int (-1) 847), en P "result" 853 (.int (-1) 849)] 4), #[]⟩
noncomputable def o326 (P : Params) : Obj := ⟨(.type "dict"), none, (.dict #[en P "s" 870 (.str (Str.ofString "uit") 860), en P "substring_i" 872 (.int (-1) 862), en P "result" 874 (.int (-1) 864)] 3), #[]⟩
noncomputable def o327 (P : Params) : Obj := ⟨(.ref 218), some 326, .plain, #[]⟩
noncomputable def o328 (P : Params) : Obj := ⟨(.type "frame"), none, (.dict #[en P "self" 865 (.ref 327), en P "s" 866 (.str (Str.ofString "uit") 860), en P "substring_i" 867 (.int (-1) 862), en P "result" 868 (.int (-1) 864)] 4), #[]⟩
noncomputable def o329 (P : Params) : Obj := ⟨(.type "dict"), none, (.dict #[en P "s" 885 (.str (Str.ofString "ivit") 875), en P "substring_i" 887 (.int (-1) 877), en P "result" 889 (.int (-1) 879)] 3), #[]⟩
noncomputable def o330 (P : Params) : Obj := ⟨(.ref 218), some 329, .plain, #[]⟩
noncomputable def o331 (P : Params) : Obj := ⟨(.type "frame"), none, (.dict #[en P "self" 880 (.ref 330), en P "s" 881 (.str (Str.ofString "ivit") 875), en P "substring_i" 882 (.int (-1) 877), en P "result" 883 (.int (-1) 879)] 4), #[]⟩
noncomputable def o332 (P : Params) : Obj := ⟨(.type "dict"), none, (.dict #[en P "s" 900 (.str (Str.ofString "kvit") 890), en P "substring_i" 902 (.int (-1) 892), en P "result" 904 (.int (-1) 894)] 3), #[]⟩
noncomputable def o333 (P : Params) : Obj := ⟨(.ref 218), some 332, .plain, #[]⟩
noncomputable def o334 (P : Params) : Obj := ⟨(.type "frame"), none, (.dict #[en P "self" 895 (.ref 333), en P "s" 896 (.str (Str.ofString "kvit") 890), en P "substring_i" 897 (.int (-1) 892), en P "result" 898 (.int (-1) 894)] 4), #[]⟩
noncomputable def o335 (P : Params) : Obj := ⟨(.type "dict"), none, (.dict #[en P "s" 915 (.str (Str.ofString "xit") 905), en P "substring_i" 917 (.int (-1) 907), en P "result" 919 (.int (-1) 909)] 3), #[]⟩
noncomputable def o336 (P : Params) : Obj := ⟨(.ref 218), some 335, .plain, #[]⟩
noncomputable def o337 (P : Params) : Obj := ⟨(.type "frame"), none, (.dict #[en P "self" 910 (.ref 336), en P "s" 911 (.str (Str.ofString "xit") 905), en P "substring_i" 912 (.int (-1) 907), en P "result" 913 (.int (-1) 909)] 4), #[]⟩
noncomputable def o338 (P : Params) : Obj := ⟨(.type "list"), none, (.seq #[(.ref 276), (.ref 279), (.ref 282), (.ref 285), (.ref 288), (.ref 291), (.ref 294), (.ref 297), (.ref 300), (.ref 303), (.ref 306), (.ref 309), (.ref 312), (.ref 315), (.ref 318), (.ref 321), (.ref 324), (.ref 327), (.ref 330), (.ref 333), (.ref 336)] 0), #[]⟩
noncomputable def TC11 (P : Params) (d1 d2 d3 : Data) : BT := (.node (boot_o_0 P) (.node (boot_o_1 P) (.node (o3_1 P) (.node (boot_o_7 P) (.node (o15 P) (.node (o31 P) (.node (o63 P) (.node (o127 P) (lf (o255 P)) .nil) (.node (o191 P) (lf (o319 P)) .nil)) (.node (o95 P) (.node (o159 P) (lf (o287 P)) .nil) (lf (o223 P)))) (.node (o47 P) (.node (o79 P) (.node (o143 P) (lf (o271 P)) .nil) (.node (o207 P) (lf (o335 P)) .nil)) (.node (o111 P) (.node (o175 P) (lf (o303 P)) .nil) (lf (o239 P))))) (.node (o23 P) (.node (o39 P) (.node (o71 P) (.node (o135 P) (lf (o263 P)) .nil) (.node (o199 P) (lf (o327 P)) .nil)) (.node (o103 P) (.node (o167 P) (lf (o295 P)) .nil) (lf (so d2)))) (.node (o55 P) (.node (o87 P) (.node (o151 P) (lf (o279 P)) .nil) (lf (o215 P))) (.node (o119 P) (.node (o183 P) (lf (o311 P)) .nil) (lf (o247 P)))))) (.node (o11 P) (.node (o19 P) (.node (o35 P) (.node (o67 P) (.node (o131 P) (lf (o259 P)) .nil) (.node (o195 P) (lf (o323 P)) .nil)) (.node (o99 P) (.node (o163 P) (lf (o291 P)) .nil) (lf (o227_1 P)))) (.node (o51 P) (.node (o83 P) (.node (o147 P) (lf (o275 P)) .nil) (lf (o211 P))) (.node (o115 P) (.node (o179 P) (lf (o307 P)) .nil) (lf (o243 P))))) (.node (o27 P) (.node (o43 P) (.node (o75 P) (.node (o139 P) (lf (o267 P)) .nil) (.node (o203 P) (lf (o331 P)) .nil)) (.node (o107 P) (.node (o171 P) (lf (o299 P)) .nil) (lf (o235 P)))) (.node (o59 P) (.node (o91 P) (.node (o155 P) (lf (o283 P)) .nil) (lf (o219 P))) (.node (o123 P) (.node (o187 P) (lf (o315 P)) .nil) (lf (o251 P))))))) (.node (boot_o_5 P) (.node (boot_o_9 P) (.node (o17 P) (.node (o33 P) (.node (o65 P) (.node (o129 P) (lf (o257 P)) .nil) (.node (o193 P) (lf (o321 P)) .nil)) (.node (o97 P) (.node (o161 P) (lf (o289 P)) .nil) (lf (o225_5 P)))) (.node (o49 P) (.node (o81 P) (.node (o145 P) (lf (o273 P)) .nil) (.node (o209 P) (lf (o337 P)) .nil)) (.node (o113 P) (.node (o177 P) (lf (o305 P)) .nil) (lf (o241 P))))) (.node (o25 P) (.node (o41 P) (.node (o73 P) (.node (o137 P) (lf (o265 P)) .nil) (.node (o201 P) (lf (o329 P)) .nil)) (.node (o105 P) (.node (o169 P) (lf (o297 P)) .nil) (lf (o233 P)))) (.node (o57 P) (.node (o89 P) (.node (o153 P) (lf (o281 P)) .nil) (lf (o217 P))) (.node (o121 P) (.node (o185 P) (lf (o313 P)) .nil) (lf (o249 P)))))) (.node (o13 P) (.node (o21 P) (.node (o37 P) (.node (o69 P) (.node (o133 P) (lf (o261 P)) .nil) (.node (o197 P) (lf (o325 P)) .nil)) (.node (o101 P) (.node (o165 P) (lf (o293 P)) .nil) (lf (o229 P)))) (.node (o53 P) (.node (o85 P) (.node (o149 P) (lf (o277 P)) .nil) (lf (o213 P))) (.node (o117 P) (.node (o181 P) (lf (o309 P)) .nil) (lf (o245 P))))) (.node (o29 P) (.node (o45 P) (.node (o77 P) (.node (o141 P) (lf (o269 P)) .nil) (.node (o205 P) (lf (o333 P)) .nil)) (.node (o109 P) (.node (o173 P) (lf (o301 P)) .nil) (lf (o237 P)))) (.node (o61 P) (.node (o93 P) (.node (o157 P) (lf (o285 P)) .nil) (lf (o221 P))) (.node (o125 P) (.node (o189 P) (lf (o317 P)) .nil) (lf (o253 P)))))))) (.node (o2 P) (.node (boot_o_4 P) (.node (boot_o_8 P) (.node (o16 P) (.node (o32 P) (.node (o64 P) (.node (o128 P) (lf (o256 P)) .nil) (.node (o192 P) (lf (o320 P)) .nil)) (.node (o96 P) (.node (o160 P) (lf (o288 P)) .nil) (lf (o224 P)))) (.node (o48 P) (.node (o80 P) (.node (o144 P) (lf (o272 P)) .nil) (.node (o208 P) (lf (o336 P)) .nil)) (.node (o112 P) (.node (o176 P) (lf (o304 P)) .nil) (lf (o240 P))))) (.node (o24 P) (.node (o40 P) (.node (o72 P) (.node (o136 P) (lf (o264 P)) .nil) (.node (o200 P) (lf (o328 P)) .nil)) (.node (o104 P) (.node (o168 P) (lf (o296 P)) .nil) (lf (so d3)))) (.node (o56 P) (.node (o88 P) (.node (o152 P) (lf (o280 P)) .nil) (lf (o216 P))) (.node (o120 P) (.node (o184 P) (lf (o312 P)) .nil) (lf (o248 P)))))) (.node (o12_2 P) (.node (o20 P) (.node (o36 P) (.node (o68 P) (.node (o132 P) (lf (o260 P)) .nil) (.node (o196 P) (lf (o324 P)) .nil)) (.node (o100 P) (.node (o164 P) (lf (o292 P)) .nil) (lf (o228 P)))) (.node (o52 P) (.node (o84 P) (.node (o148 P) (lf (o276 P)) .nil) (lf (o212 P))) (.node (o116 P) (.node (o180 P) (lf (o308 P)) .nil) (lf (o244 P))))) (.node (o28 P) (.node (o44 P) (.node (o76 P) (.node (o140 P) (lf (o268 P)) .nil) (.node (o204 P) (lf (o332 P)) .nil)) (.node (o108 P) (.node (o172 P) (lf (o300 P)) .nil) (lf (o236 P)))) (.node (o60 P) (.node (o92 P) (.node (o156 P) (lf (o284 P)) .nil) (lf (o220 P))) (.node (o124 P) (.node (o188 P) (lf (o316 P)) .nil) (lf (o252 P))))))) (.node (boot_o_6 P) (.node (boot_o_10 P) (.node (o18 P) (.node (o34 P) (.node (o66 P) (.node (o130 P) (lf (o258 P)) .nil) (.node (o194 P) (lf (o322 P)) .nil)) (.node (o98 P) (.node (o162 P) (lf (o290 P)) .nil) (lf (o226 P)))) (.node (o50 P) (.node (o82 P) (.node (o146 P) (lf (o274 P)) .nil) (.node (o210 P) (lf (o338 P)) .nil)) (.node (o114 P) (.node (o178 P) (lf (o306 P)) .nil) (lf (o242 P))))) (.node (o26 P) (.node (o42 P) (.node (o74 P) (.node (o138 P) (lf (o266 P)) .nil) (.node (o202 P) (lf (o330 P)) .nil)) (.node (o106 P) (.node (o170 P) (lf (o298 P)) .nil) (lf (o234 P)))) (.node (o58 P) (.node (o90 P) (.node (o154 P) (lf (o282 P)) .nil) (lf (o218 P))) (.node (o122 P) (.node (o186 P) (lf (o314 P)) .nil) (lf (o250 P)))))) (.node (o14 P) (.node (o22 P) (.node (o38 P) (.node (o70 P) (.node (o134 P) (lf (o262 P)) .nil) (.node (o198 P) (lf (o326 P)) .nil)) (.node (o102 P) (.node (o166 P) (lf (o294 P)) .nil) (lf (so d1)))) (.node (o54 P) (.node (o86 P) (.node (o150 P) (lf (o278 P)) .nil) (lf (o214 P))) (.node (o118 P) (.node (o182 P) (lf (o310 P)) .nil) (lf (o246 P))))) (.node (o30 P) (.node (o46 P) (.node (o78 P) (.node (o142 P) (lf (o270 P)) .nil) (.node (o206 P) (lf (o334 P)) .nil)) (.node (o110 P) (.node (o174 P) (lf (o302 P)) .nil) (lf (o238 P)))) (.node (o62 P) (.node (o94 P) (.node (o158 P) (lf (o286 P)) .nil) (lf (o222 P))) (.node (o126 P) (.node (o190 P) (lf (o318 P)) .nil) (lf (o254 P)))))))))
noncomputable def sC11 (P : Params) (d1 d2 d3 : Data) (T : Nat) (os : OsState) : SharedT := ⟨TC11 P d1 d2 d3, 339, {}, #[], {}, T, os⟩
noncomputable def o225_6 (P : Params) : Obj := ⟨(.type "dict"), none, (.dict #[en P "__module__" 468 (.str (Str.ofString "snowballstemmer.swedish_stemmer") 459), en P "__qualname__" 470 (.str (Str.ofString "SwedishStemmer") 469), en P "__firstlineno__" 472 (.int 168 471), en P "g_v" 491 (.ref 230), en P "g_s_ending" 526 (.ref 231), en P "g_ost_ending" 545 (.ref 232), en P "I_p1" 547 (.int 0 546), en P "r_mark_regions" 556 (.ref 239), en P "r_et_condition" 565 (.ref 246), en P "r_main_suffix" 575 (.ref 253), en P "r_consonant_pair" 584 (.ref 260), en P "r_other_suffix" 593 (.ref 267), en P "_stem" 604 (.ref 274), en P "a_0" 920 (.ref 338), en P "a_1" 1427 (.ref 453)] 15), #[]⟩
noncomputable def o339 (P : Params) : Obj := ⟨(.type "dict"), none, (.dict #[en P "s" 930 (.str (Str.ofString "a") 921), en P "substring_i" 932 (.int (-1) 923), en P "result" 934 (.int 1 924)] 3), #[]⟩
noncomputable def o340 (P : Params) : Obj := ⟨(.ref 218), some 339, .plain, #[]⟩
noncomputable def o341 (P : Params) : Obj := ⟨(.type "frame"), none, (.dict #[en P "self" 925 (.ref 340), en P "s" 926 (.str (Str.ofString "a") 921), en P "substring_i" 927 (.int (-1) 923), en P "result" 928 (.int 1 924)] 4), #[]⟩
noncomputable def o342 (P : Params) : Obj := ⟨(.type "dict"), none, (.dict #[en P "s" 943 (.str (Str.ofString "arna") 935), en P "substring_i" 945 (.int 0 936), en P "result" 947 (.int 1 937)] 3), #[]⟩
noncomputable def o343 (P : Params) : Obj := ⟨(.ref 218), some 342, .plain, #[]⟩
noncomputable def o344 (P : Params) : Obj := ⟨(.type "frame"), none, (.dict #[en P "self" 938 (.ref 343), en P "s" 939 (.str (Str.ofString "arna") 935), en P "substring_i" 940 (.int 0 936), en P "result" 941 (.int 1 937)] 4), #[]⟩
noncomputable def o345 (P : Params) : Obj := ⟨(.type "dict"), none, (.dict #[en P "s" 956 (.str (Str.ofString "erna") 948), en P "substring_i" 958 (.int 0 949), en P "result" 960 (.int 1 950)] 3), #[]⟩
noncomputable def o346 (P : Params) : Obj := ⟨(.ref 218), some 345, .plain, #[]⟩
noncomputable def o347 (P : Params) : Obj := ⟨(.type "frame"), none, (.dict #[en P "self" 951 (.ref 346), en P "s" 952 (.str (Str.ofString "erna") 948), en P "substring_i" 953 (.int 0 949), en P "result" 954 (.int 1 950)] 4), #[]⟩
noncomputable def o348 (P : Params) : Obj := ⟨(.type "dict"), none, (.dict #[en P "s" 969 (.str (Str.ofString "heterna") 961), en P "substring_i" 971 (.int 2 962), en P "result" 973 (.int 1 963)] 3), #[]⟩
noncomputable def o349 (P : Params) : Obj := ⟨(.ref 218), some 348, .plain, #[]⟩
noncomputable def o350 (P : Params) : Obj := ⟨(.type "frame"), none, (.dict #[en P "self" 964 (.ref 349), en P "s" 965 (.str (Str.ofString "heterna") 961), en P "substring_i" 966 (.int 2 962), en P "result" 967 (.int 1 963)] 4), #[]⟩
noncomputable def o351 (P : Params) : Obj := ⟨(.type "dict"), none, (.dict #[en P "s" 982 (.str (Str.ofString "orna") 974), en P "substring_i" 984 (.int 0 975), en P "result" 986 (.int 1 976)] 3), #[]⟩
noncomputable def o352 (P : Params) : Obj := ⟨(.ref 218), some 351, .plain, #[]⟩
noncomputable def o353 (P : Params) : Obj := ⟨(.type "frame"), none, (.dict #[en P "self" 977 (.ref 352), en P "s" 978 (.str (Str.ofString "orna") 974), en P "substring_i" 979 (.int 0 975), en P "result" 980 (.int 1 976)] 4), #[]⟩
noncomputable def o354 (P : Params) : Obj := ⟨(.type "dict"), none, (.dict #[en P "s" 996 (.str (Str.ofString "ad") 987), en P "substring_i" 998 (.int (-1) 989), en P "result" 1000 (.int 1 990)] 3), #[]⟩
noncomputable def o355 (P : Params) : Obj := ⟨(.ref 218), some 354, .plain, #[]⟩
noncomputable def o356 (P : Params) : Obj := ⟨(.type "frame"), none, (.dict #[en P "self" 991 (.ref 355), en P "s" 992 (.str (Str.ofString "ad") 987), en P "substring_i" 993 (.int (-1) 989), en P "result" 994 (.int 1 990)] 4), #[]⟩
noncomputable def o357 (P : Params) : Obj := ⟨(.type "dict"), none, (.dict #[en P "s" 1010 (.str (Str.ofString "e") 1001), en P "substring_i" 1012 (.int (-1) 1003), en P "result" 1014 (.int 1 1004)] 3), #[]⟩
noncomputable def o358 (P : Params) : Obj := ⟨(.ref 218), some 357, .plain, #[]⟩
noncomputable def o359 (P : Params) : Obj := ⟨(.type "frame"), none, (.dict #[en P "self" 1005 (.ref 358), en P "s" 1006 (.str (Str.ofString "e") 1001), en P "substring_i" 1007 (.int (-1) 1003), en P "result" 1008 (.int 1 1004)] 4), #[]⟩
noncomputable def o360 (P : Params) : Obj := ⟨(.type "dict"), none, (.dict #[en P "s" 1023 (.str (Str.ofString "ade") 1015), en P "substring_i" 1025 (.int 6 1016), en P "result" 1027 (.int 1 1017)] 3), #[]⟩
noncomputable def o361 (P : Params) : Obj := ⟨(.ref 218), some 360, .plain, #[]⟩
noncomputable def o362 (P : Params) : Obj := ⟨(.type "frame"), none, (.dict #[en P "self" 1018 (.ref 361), en P "s" 1019 (.str (Str.ofString "ade") 1015), en P "substring_i" 1020 (.int 6 1016), en P "result" 1021 (.int 1 1017)] 4), #[]⟩
noncomputable def o363 (P : Params) : Obj := ⟨(.type "dict"), none, (.dict #[en P "s" 1036 (.str (Str.ofString "ande") 1028), en P "substring_i" 1038 (.int 6 1029), en P "result" 1040 (.int 1 1030)] 3), #[]⟩
noncomputable def o364 (P : Params) : Obj := ⟨(.ref 218), some 363, .plain, #[]⟩
noncomputable def o365 (P : Params) : Obj := ⟨(.type "frame"), none, (.dict #[en P "self" 1031 (.ref 364), en P "s" 1032 (.str (Str.ofString "ande") 1028), en P "substring_i" 1033 (.int 6 1029), en P "result" 1034 (.int 1 1030)] 4), #[]⟩
noncomputable def o366 (P : Params) : Obj := ⟨(.type "dict"), none, (.dict #[en P "s" 1049 (.str (Str.ofString "arne") 1041), en P "substring_i" 1051 (.int 6 1042), en P "result" 1053 (.int 1 1043)] 3), #[]⟩
noncomputable def o367 (P : Params) : Obj := ⟨(.ref 218), some 366, .plain, #[]⟩
noncomputable def o368 (P : Params) : Obj := ⟨(.type "frame"), none, (.dict #[en P "self" 1044 (.ref 367), en P "s" 1045 (.str (Str.ofString "arne") 1041), en P "substring_i" 1046 (.int 6 1042), en P "result" 1047 (.int 1 1043)] 4), #[]⟩
noncomputable def o369 (P : Params) : Obj := ⟨(.type "dict"), none, (.dict #[en P "s" 1062 (.str (Str.ofString "are") 1054), en P "substring_i" 1064 (.int 6 1055), en P "result" 1066 (.int 1 1056)] 3), #[]⟩
noncomputable def o370 (P : Params) : Obj := ⟨(.ref 218), some 369, .plain, #[]⟩
noncomputable def o371 (P : Params) : Obj := ⟨(.type "frame"), none, (.dict #[en P "self" 1057 (.ref 370), en P "s" 1058 (.str (Str.ofString "are") 1054), en P "substring_i" 1059 (.int 6 1055), en P "result" 1060 (.int 1 1056)] 4), #[]⟩
noncomputable def o372 (P : Params) : Obj := ⟨(.type "dict"), none, (.dict #[en P "s" 1075 (.str (Str.ofString "aste") 1067), en P "substring_i" 1077 (.int 6 1068), en P "result" 1079 (.int 1 1069)] 3), #[]⟩
noncomputable def o373 (P : Params) : Obj := ⟨(.ref 218), some 372, .plain, #[]⟩
noncomputable def o374 (P : Params) : Obj := ⟨(.type "frame"), none, (.dict #[en P "self" 1070 (.ref 373), en P "s" 1071 (.str (Str.ofString "aste") 1067), en P "substring_i" 1072 (.int 6 1068), en P "result" 1073 (.int 1 1069)] 4), #[]⟩
noncomputable def o375 (P : Params) : Obj := ⟨(.type "dict"), none, (.dict #[en P "s" 1089 (.str (Str.ofString "en") 1080), en P "substring_i" 1091 (.int (-1) 1082), en P "result" 1093 (.int 1 1083)] 3), #[]⟩
noncomputable def o376 (P : Params) : Obj := ⟨(.ref 218), some 375, .plain, #[]⟩
noncomputable def o377 (P : Params) : Obj := ⟨(.type "frame"), none, (.dict #[en P "self" 1084 (.ref 376), en P "s" 1085 (.str (Str.ofString "en") 1080), en P "substring_i" 1086 (.int (-1) 1082), en P "result" 1087 (.int 1 1083)] 4), #[]⟩
noncomputable def o378 (P : Params) : Obj := ⟨(.type "dict"), none, (.dict #[en P "s" 1102 (.str (Str.ofString "anden") 1094), en P "substring_i" 1104 (.int 12 1095), en P "result" 1106 (.int 1 1096)] 3), #[]⟩
noncomputable def o379 (P : Params) : Obj := ⟨(.ref 218), some 378, .plain, #[]⟩
noncomputable def o380 (P : Params) : Obj := ⟨(.type "frame"), none, (.dict #[en P "self" 1097 (.ref 379), en P "s" 1098 (.str (Str.ofString "anden") 1094), en P "substring_i" 1099 (.int 12 1095), en P "result" 1100 (.int 1 1096)] 4), #[]⟩
noncomputable def o381 (P : Params) : Obj := ⟨(.type "dict"), none, (.dict #[en P "s" 1115 (.str (Str.ofString "aren") 1107), en P "substring_i" 1117 (.int 12 1108), en P "result" 1119 (.int 1 1109)] 3), #[]⟩
noncomputable def o382 (P : Params) : Obj := ⟨(.ref 218), some 381, .plain, #[]⟩
noncomputable def o383 (P : Params) : Obj := ⟨(.type "frame"), none, (.dict #[en P "self" 1110 (.ref 382), en P "s" 1111 (.str (Str.ofString "aren") 1107), en P "substring_i" 1112 (.int 12 1108), en P "result" 1113 (.int 1 1109)] 4), #[]⟩
noncomputable def o384 (P : Params) : Obj := ⟨(.type "dict"), none, (.dict #[en P "s" 1128 (.str (Str.ofString "heten") 1120), en P "substring_i" 1130 (.int 12 1121), en P "result" 1132 (.int 1 1122)] 3), #[]⟩
noncomputable def o385 (P : Params) : Obj := ⟨(.ref 218), some 384, .plain, #[]⟩
noncomputable def o386 (P : Params) : Obj := ⟨(.type "frame"), none, (.dict #[en P "self" 1123 (.ref 385), en P "s" 1124 (.str (Str.ofString "heten") 1120), en P "substring_i" 1125 (.int 12 1121), en P "result" 1126 (.int 1 1122)] 4), #[]⟩
noncomputable def o387 (P : Params) : Obj := ⟨(.type "dict"), none, (.dict #[en P "s" 1142 (.str (Str.ofString "ern") 1133), en P "substring_i" 1144 (.int (-1) 1135), en P "result" 1146 (.int 1 1136)] 3), #[]⟩
noncomputable def o388 (P : Params) : Obj := ⟨(.ref 218), some 387, .plain, #[]⟩
noncomputable def o389 (P : Params) : Obj := ⟨(.type "frame"), none, (.dict #[en P "self" 1137 (.ref 388), en P "s" 1138 (.str (Str.ofString "ern") 1133), en P "substring_i" 1139 (.int (-1) 1135), en P "result" 1140 (.int 1 1136)] 4), #[]⟩
noncomputable def o390 (P : Params) : Obj := ⟨(.type "dict"), none, (.dict #[en P "s" 1156 (.str (Str.ofString "ar") 1147), en P "substring_i" 1158 (.int (-1) 1149), en P "result" 1160 (.int 1 1150)] 3), #[]⟩
noncomputable def o391 (P : Params) : Obj := ⟨(.ref 218), some 390, .plain, #[]⟩
noncomputable def o392 (P : Params) : Obj := ⟨(.type "frame"), none, (.dict #[en P "self" 1151 (.ref 391), en P "s" 1152 (.str (Str.ofString "ar") 1147), en P "substring_i" 1153 (.int (-1) 1149), en P "result" 1154 (.int 1 1150)] 4), #[]⟩
noncomputable def o393 (P : Params) : Obj := ⟨(.type "dict"), none, (.dict #[en P "s" 1170 (.str (Str.ofString "er") 1161), en P "substring_i" 1172 (.int (-1) 1163), en P "result" 1174 (.int 1 1164)] 3), #[]⟩
noncomputable def o394 (P : Params) : Obj := ⟨(.ref 218), some 393, .plain, #[]⟩
noncomputable def o395 (P : Params) : Obj := ⟨(.type "frame"), none, (.dict #[en P "self" 1165 (.ref 394), en P "s" 1166 (.str (Str.ofString "er") 1161), en P "substring_i" 1167 (.int (-1) 1163), en P "result" 1168 (.int 1 1164)] 4), #[]⟩
noncomputable def o396 (P : Params) : Obj := ⟨(.type "dict"), none, (.dict #[en P "s" 1183 (.str (Str.ofString "heter") 1175), en P "substring_i" 1185 (.int 18 1176), en P "result" 1187 (.int 1 1177)] 3), #[]⟩
noncomputable def o397 (P : Params) : Obj := ⟨(.ref 218), some 396, .plain, #[]⟩
noncomputable def o398 (P : Params) : Obj := ⟨(.type "frame"), none, (.dict #[en P "self" 1178 (.ref 397), en P "s" 1179 (.str (Str.ofString "heter") 1175), en P "substring_i" 1180 (.int 18 1176), en P "result" 1181 (.int 1 1177)] 4), #[]⟩
noncomputable def o399 (P : Params) : Obj := ⟨(.type "dict"), none, (.dict #[en P "s" 1197 (.str (Str.ofString "or") 1188), en P "substring_i" 1199 (.int (-1) 1190), en P "result" 1201 (.int 1 1191)] 3), #[]⟩
noncomputable def o400 (P : Params) : Obj := ⟨(.ref 218), some 399, .plain, #[]⟩
noncomputable def o401 (P : Params) : Obj := ⟨(.type "frame"), none, (.dict #[en P "self" 1192 (.ref 400), en P "s" 1193 (.str (Str.ofString "or") 1188), en P "substring_i" 1194 (.int (-1) 1190), en P "result" 1195 (.int 1 1191)] 4), #[]⟩
noncomputable def o402 (P : Params) : Obj := ⟨(.type "dict"), none, (.dict #[en P "s" 1211 (.str (Str.ofString "s") 1202), en P "substring_i" 1213 (.int (-1) 1204), en P "result" 1215 (.int 2 1205)] 3), #[]⟩
noncomputable def o403 (P : Params) : Obj := ⟨(.ref 218), some 402, .plain, #[]⟩
noncomputable def o404 (P : Params) : Obj := ⟨(.type "frame"), none, (.dict #[en P "self" 1206 (.ref 403), en P "s" 1207 (.str (Str.ofString "s") 1202), en P "substring_i" 1208 (.int (-1) 1204), en P "result" 1209 (.int 2 1205)] 4), #[]⟩
noncomputable def o405 (P : Params) : Obj := ⟨(.type "dict"), none, (.dict #[en P "s" 1224 (.str (Str.ofString "as") 1216), en P "substring_i" 1226 (.int 21 1217), en P "result" 1228 (.int 1 1218)] 3), #[]⟩
noncomputable def o406 (P : Params) : Obj := ⟨(.ref 218), some 405, .plain, #[]⟩
noncomputable def o407 (P : Params) : Obj := ⟨(.type "frame"), none, (.dict #[en P "self" 1219 (.ref 406), en P "s" 1220 (.str (Str.ofString "as") 1216), en P "substring_i" 1221 (.int 21 1217), en P "result" 1222 (.int 1 1218)] 4), #[]⟩
noncomputable def o408 (P : Params) : Obj := ⟨(.type "dict"), none, (.dict #[en P "s" 1237 (.str (Str.ofString "arnas") 1229), en P "substring_i" 1239 (.int 22 1230), en P "result" 1241 (.int 1 1231)] 3), #[]⟩
noncomputable def o409 (P : Params) : Obj := ⟨(.ref 218), some 408, .plain, #[]⟩
noncomputable def o410 (P : Params) : Obj := ⟨(.type "frame"), none, (.dict #[en P "self" 1232 (.ref 409), en P "s" 1233 (.str (Str.ofString "arnas") 1229), en P "substring_i" 1234 (.int 22 1230), en P "result" 1235 (.int 1 1231)] 4), #[]⟩
noncomputable def o411 (P : Params) : Obj := ⟨(.type "dict"), none, (.dict #[en P "s" 1250 (.str (Str.ofString "ernas") 1242), en P "substring_i" 1252 (.int 22 1243), en P "result" 1254 (.int 1 1244)] 3), #[]⟩
noncomputable def o412 (P : Params) : Obj := ⟨(.ref 218), some 411, .plain, #[]⟩
noncomputable def o413 (P : Params) : Obj := ⟨(.type "frame"), none, (.dict #[en P "self" 1245 (.ref 412), en P "s" 1246 (.str (Str.ofString "ernas") 1242), en P "substring_i" 1247 (.int 22 1243), en P "result" 1248 (.int 1 1244)] 4), #[]⟩
noncomputable def o414 (P : Params) : Obj := ⟨(.type "dict"), none, (.dict #[en P "s" 1263 (.str (Str.ofString "ornas") 1255), en P "substring_i" 1265 (.int 22 1256), en P "result" 1267 (.int 1 1257)] 3), #[]⟩
noncomputable def o415 (P : Params) : Obj := ⟨(.ref 218), some 414, .plain, #[]⟩
noncomputable def o416 (P : Params) : Obj := ⟨(.type "frame"), none, (.dict #[en P "self" 1258 (.ref 415), en P "s" 1259 (.str (Str.ofString "ornas") 1255), en P "substring_i" 1260 (.int 22 1256), en P "result" 1261 (.int 1 1257)] 4), #[]⟩
noncomputable def o417 (P : Params) : Obj := ⟨(.type "dict"), none, (.dict #[en P "s" 1276 (.str (Str.ofString "es") 1268), en P "substring_i" 1278 (.int 21 1269), en P "result" 1280 (.int 1 1270)] 3), #[]⟩
noncomputable def o418 (P : Params) : Obj := ⟨(.ref 218), some 417, .plain, #[]⟩
noncomputable def o419 (P : Params) : Obj := ⟨(.type "frame"), none, (.dict #[en P "self" 1271 (.ref 418), en P "s" 1272 (.str (Str.ofString "es") 1268), en P "substring_i" 1273 (.int 21 1269), en P "result" 1274 (.int 1 1270)] 4), #[]⟩
noncomputable def o420 (P : Params) : Obj := ⟨(.type "dict"), none, (.dict #[en P "s" 1289 (.str (Str.ofString "ades") 1281), en P "substring_i" 1291 (.int 26 1282), en P "result" 1293 (.int 1 1283)] 3), #[]⟩
noncomputable def o421 (P : Params) : Obj := ⟨(.ref 218), some 420, .plain, #[]⟩
noncomputable def o422 (P : Params) : Obj := ⟨(.type "frame"), none, (.dict #[en P "self" 1284 (.ref 421), en P "s" 1285 (.str (Str.ofString "ades") 1281), en P "substring_i" 1286 (.int 26 1282), en P "result" 1287 (.int 1 1283)] 4), #[]⟩
noncomputable def o423 (P : Params) : Obj := ⟨(.type "dict"), none, (.dict #[en P "s" 1302 (.str (Str.ofString "andes") 1294), en P "substring_i" 1304 (.int 26 1295), en P "result" 1306 (.int 1 1296)] 3), #[]⟩
noncomputable def o424 (P : Params) : Obj := ⟨(.ref 218), some 423, .plain, #[]⟩
noncomputable def o425 (P : Params) : Obj := ⟨(.type "frame"), none, (.dict #[en P "self" 1297 (.ref 424), en P "s" 1298 (.str (Str.ofString "andes") 1294), en P "substring_i" 1299 (.int 26 1295), en P "result" 1300 (.int 1 1296)] 4), #[]⟩
noncomputable def o426 (P : Params) : Obj := ⟨(.type "dict"), none, (.dict #[en P "s" 1315 (.str (Str.ofString "ens") 1307), en P "substring_i" 1317 (.int 21 1308), en P "result" 1319 (.int 1 1309)] 3), #[]⟩
noncomputable def o427 (P : Params) : Obj := ⟨(.ref 218), some 426, .plain, #[]⟩
noncomputable def o428 (P : Params) : Obj := ⟨(.type "frame"), none, (.dict #[en P "self" 1310 (.ref 427), en P "s" 1311 (.str (Str.ofString "ens") 1307), en P "substring_i" 1312 (.int 21 1308), en P "result" 1313 (.int 1 1309)] 4), #[]⟩
noncomputable def o429 (P : Params) : Obj := ⟨(.type "dict"), none, (.dict #[en P "s" 1328 (.str (Str.ofString "arens") 1320), en P "substring_i" 1330 (.int 29 1321), en P "result" 1332 (.int 1 1322)] 3), #[]⟩
noncomputable def o430 (P : Params) : Obj := ⟨(.ref 218), some 429, .plain, #[]⟩
noncomputable def o431 (P : Params) : Obj := ⟨(.type "frame"), none, (.dict #[en P "self" 1323 (.ref 430), en P "s" 1324 (.str (Str.ofString "arens") 1320), en P "substring_i" 1325 (.int 29 1321), en P "result" 1326 (.int 1 1322)] 4), #[]⟩
noncomputable def o432 (P : Params) : Obj := ⟨(.type "dict"), none, (.dict #[en P "s" 1341 (.str (Str.ofString "hetens") 1333), en P "substring_i" 1343 (.int 29 1334), en P "result" 1345 (.int 1 1335)] 3), #[]⟩
noncomputable def o433 (P : Params) : Obj := ⟨(.ref 218), some 432, .plain, #[]⟩
noncomputable def o434 (P : Params) : Obj := ⟨(.type "frame"), none, (.dict #[en P "self" 1336 (.ref 433), en P "s" 1337 (.str (Str.ofString "hetens") 1333), en P "substring_i" 1338 (.int 29 1334), en P "result" 1339 (.int 1 1335)] 4), #[]⟩
noncomputable def o435 (P : Params) : Obj := ⟨(.type "dict"), none, (.dict #[en P "s" 1354 (.str (Str.ofString "erns") 1346), en P "substring_i" 1356 (.int 21 1347), en P "result" 1358 (.int 1 1348)] 3), #[]⟩
noncomputable def o436 (P : Params) : Obj := ⟨(.ref 218), some 435, .plain, #[]⟩
noncomputable def o437 (P : Params) : Obj := ⟨(.type "frame"), none, (.dict #[en P "self" 1349 (.ref 436), en P "s" 1350 (.str (Str.ofString "erns") 1346), en P "substring_i" 1351 (.int 21 1347), en P "result" 1352 (.int 1 1348)] 4), #[]⟩
noncomputable def o438 (P : Params) : Obj := ⟨(.type "dict"), none, (.dict #[en P "s" 1368 (.str (Str.ofString "at") 1359), en P "substring_i" 1370 (.int (-1) 1361), en P "result" 1372 (.int 1 1362)] 3), #[]⟩
noncomputable def o439 (P : Params) : Obj := ⟨(.ref 218), some 438, .plain, #[]⟩
noncomputable def o440 (P : Params) : Obj := ⟨(.type "frame"), none, (.dict #[en P "self" 1363 (.ref 439), en P "s" 1364 (.str (Str.ofString "at") 1359), en P "substring_i" 1365 (.int (-1) 1361), en P "result" 1366 (.int 1 1362)] 4), #[]⟩
noncomputable def o441 (P : Params) : Obj := ⟨(.type "dict"), none, (.dict #[en P "s" 1382 (.str (Str.ofString "et") 1373), en P "substring_i" 1384 (.int (-1) 1375), en P "result" 1386 (.int 3 1376)] 3), #[]⟩
noncomputable def o442 (P : Params) : Obj := ⟨(.ref 218), some 441, .plain, #[]⟩
noncomputable def o443 (P : Params) : Obj := ⟨(.type "frame"), none, (.dict #[en P "self" 1377 (.ref 442), en P "s" 1378 (.str (Str.ofString "et") 1373), en P "substring_i" 1379 (.int (-1) 1375), en P "result" 1380 (.int 3 1376)] 4), #[]⟩
noncomputable def o444 (P : Params) : Obj := ⟨(.type "dict"), none, (.dict #[en P "s" 1395 (.str (Str.ofString "andet") 1387), en P "substring_i" 1397 (.int 34 1388), en P "result" 1399 (.int 1 1389)] 3), #[]⟩
noncomputable def o445 (P : Params) : Obj := ⟨(.ref 218), some 444, .plain, #[]⟩
noncomputable def o446 (P : Params) : Obj := ⟨(.type "frame"), none, (.dict #[en P "self" 1390 (.ref 445), en P "s" 1391 (.str (Str.ofString "andet") 1387), en P "substring_i" 1392 (.int 34 1388), en P "result" 1393 (.int 1 1389)] 4), #[]⟩
noncomputable def o447 (P : Params) : Obj := ⟨(.type "dict"), none, (.dict #[en P "s" 1408 (.str (Str.ofString "het") 1400), en P "substring_i" 1410 (.int 34 1401), en P "result" 1412 (.int 1 1402)] 3), #[]⟩
noncomputable def o448 (P : Params) : Obj := ⟨(.ref 218), some 447, .plain, #[]⟩
noncomputable def o449 (P : Params) : Obj := ⟨(.type "frame"), none, (.dict #[en P "self" 1403 (.ref 448), en P "s" 1404 (.str (Str.ofString "het") 1400), en P "substring_i" 1405 (.int 34 1401), en P "result" 1406 (.int 1 1402)] 4), #[]⟩
noncomputable def o450 (P : Params) : Obj := ⟨(.type "dict"), none, (.dict #[en P "s" 1422 (.str (Str.ofString "ast") 1413), en P "substring_i" 1424 (.int (-1) 1415), en P "result" 1426 (.int 1 1416)] 3), #[]⟩
noncomputable def o451 (P : Params) : Obj := ⟨(.ref 218), some 450, .plain, #[]⟩
noncomputable def o452 (P : Params) : Obj := ⟨(.type "frame"), none, (.dict #[en P "self" 1417 (.ref 451), en P "s" 1418 (.str (Str.ofString "ast") 1413), en P "substring_i" 1419 (.int (-1) 1415), en P "result" 1420 (.int 1 1416)] 4), #[]⟩
noncomputable def o453 (P : Params) : Obj := ⟨(.type "list"), none, (.seq #[(.ref 340), (.ref 343), (.ref 346), (.ref 349), (.ref 352), (.ref 355), (.ref 358), (.ref 361), (.ref 364), (.ref 367), (.ref 370), (.ref 373), (.ref 376), (.ref 379), (.ref 382), (.ref 385), (.ref 388), (.ref 391), (.ref 394), (.ref 397), (.ref 400), (.ref 403), (.ref 406), (.ref 409), (.ref 412), (.ref 415), (.ref 418), (.ref 421), (.ref 424), (.ref 427), (.ref 430), (.ref 433), (.ref 436), (.ref 439), (.ref 442), (.ref 445), (.ref 448), (.ref 451)] 0), #[]⟩
noncomputable def TC12 (P : Params) (d1 d2 d3 : Data) : BT := (.node (boot_o_0 P) (.node (boot_o_1 P) (.node (o3_1 P) (.node (boot_o_7 P) (.node (o15 P) (.node (o31 P) (.node (o63 P) (.node (o127 P) (lf (o255 P)) (lf (o383 P))) (.node (o191 P) (lf (o319 P)) (lf (o447 P)))) (.node (o95 P) (.node (o159 P) (lf (o287 P)) (lf (o415 P))) (.node (o223 P) (lf (o351 P)) .nil))) (.node (o47 P) (.node (o79 P) (.node (o143 P) (lf (o271 P)) (lf (o399 P))) (.node (o207 P) (lf (o335 P)) .nil)) (.node (o111 P) (.node (o175 P) (lf (o303 P)) (lf (o431 P))) (.node (o239 P) (lf (o367 P)) .nil)))) (.node (o23 P) (.node (o39 P) (.node (o71 P) (.node (o135 P) (lf (o263 P)) (lf (o391 P))) (.node (o199 P) (lf (o327 P)) .nil)) (.node (o103 P) (.node (o167 P) (lf (o295 P)) (lf (o423 P))) (.node (so d2) (lf (o359 P)) .nil))) (.node (o55 P) (.node (o87 P) (.node (o151 P) (lf (o279 P)) (lf (o407 P))) (.node (o215 P) (lf (o343 P)) .nil)) (.node (o119 P) (.node (o183 P) (lf (o311 P)) (lf (o439 P))) (.node (o247 P) (lf (o375 P)) .nil))))) (.node (o11 P) (.node (o19 P) (.node (o35 P) (.node (o67 P) (.node (o131 P) (lf (o259 P)) (lf (o387 P))) (.node (o195 P) (lf (o323 P)) (lf (o451 P)))) (.node (o99 P) (.node (o163 P) (lf (o291 P)) (lf (o419 P))) (.node (o227_1 P) (lf (o355 P)) .nil))) (.node (o51 P) (.node (o83 P) (.node (o147 P) (lf (o275 P)) (lf (o403 P))) (.node (o211 P) (lf (o339 P)) .nil)) (.node (o115 P) (.node (o179 P) (lf (o307 P)) (lf (o435 P))) (.node (o243 P) (lf (o371 P)) .nil)))) (.node (o27 P) (.node (o43 P) (.node (o75 P) (.node (o139 P) (lf (o267 P)) (lf (o395 P))) (.node (o203 P) (lf (o331 P)) .nil)) (.node (o107 P) (.node (o171 P) (lf (o299 P)) (lf (o427 P))) (.node (o235 P) (lf (o363 P)) .nil))) (.node (o59 P) (.node (o91 P) (.node (o155 P) (lf (o283 P)) (lf (o411 P))) (.node (o219 P) (lf (o347 P)) .nil)) (.node (o123 P) (.node (o187 P) (lf (o315 P)) (lf (o443 P))) (.node (o251 P) (lf (o379 P)) .nil)))))) (.node (boot_o_5 P) (.node (boot_o_9 P) (.node (o17 P) (.node (o33 P) (.node (o65 P) (.node (o129 P) (lf (o257 P)) (lf (o385 P))) (.node (o193 P) (lf (o321 P)) (lf (o449 P)))) (.node (o97 P) (.node (o161 P) (lf (o289 P)) (lf (o417 P))) (.node (o225_6 P) (lf (o353 P)) .nil))) (.node (o49 P) (.node (o81 P) (.node (o145 P) (lf (o273 P)) (lf (o401 P))) (.node (o209 P) (lf (o337 P)) .nil)) (.node (o113 P) (.node (o177 P) (lf (o305 P)) (lf (o433 P))) (.node (o241 P) (lf (o369 P)) .nil)))) (.node (o25 P) (.node (o41 P) (.node (o73 P) (.node (o137 P) (lf (o265 P)) (lf (o393 P))) (.node (o201 P) (lf (o329 P)) .nil)) (.node (o105 P) (.node (o169 P) (lf (o297 P)) (lf (o425 P))) (.node (o233 P) (lf (o361 P)) .nil))) (.node (o57 P) (.node (o89 P) (.node (o153 P) (lf (o281 P)) (lf (o409 P))) (.node (o217 P) (lf (o345 P)) .nil)) (.node (o121 P) (.node (o185 P) (lf (o313 P)) (lf (o441 P))) (.node (o249 P) (lf (o377 P)) .nil))))) (.node (o13 P) (.node (o21 P) (.node (o37 P) (.node (o69 P) (.node (o133 P) (lf (o261 P)) (lf (o389 P))) (.node (o197 P) (lf (o325 P)) (lf (o453 P)))) (.node (o101 P) (.node (o165 P) (lf (o293 P)) (lf (o421 P))) (.node (o229 P) (lf (o357 P)) .nil))) (.node (o53 P) (.node (o85 P) (.node (o149 P) (lf (o277 P)) (lf (o405 P))) (.node (o213 P) (lf (o341 P)) .nil)) (.node (o117 P) (.node (o181 P) (lf (o309 P)) (lf (o437 P))) (.node (o245 P) (lf (o373 P)) .nil)))) (.node (o29 P) (.node (o45 P) (.node (o77 P) (.node (o141 P) (lf (o269 P)) (lf (o397 P))) (.node (o205 P) (lf (o333 P)) .nil)) (.node (o109 P) (.node (o173 P) (lf (o301 P)) (lf (o429 P))) (.node (o237 P) (lf (o365 P)) .nil))) (.node (o61 P) (.node (o93 P) (.node (o157 P) (lf (o285 P)) (lf (o413 P))) (.node (o221 P) (lf (o349 P)) .nil)) (.node (o125 P) (.node (o189 P) (lf (o317 P)) (lf (o445 P))) (.node (o253 P) (lf (o381 P)) .nil))))))) (.node (o2 P) (.node (boot_o_4 P) (.node (boot_o_8 P) (.node (o16 P) (.node (o32 P) (.node (o64 P) (.node (o128 P) (lf (o256 P)) (lf (o384 P))) (.node (o192 P) (lf (o320 P)) (lf (o448 P)))) (.node (o96 P) (.node (o160 P) (lf (o288 P)) (lf (o416 P))) (.node (o224 P) (lf (o352 P)) .nil))) (.node (o48 P) (.node (o80 P) (.node (o144 P) (lf (o272 P)) (lf (o400 P))) (.node (o208 P) (lf (o336 P)) .nil)) (.node (o112 P) (.node (o176 P) (lf (o304 P)) (lf (o432 P))) (.node (o240 P) (lf (o368 P)) .nil)))) (.node (o24 P) (.node (o40 P) (.node (o72 P) (.node (o136 P) (lf (o264 P)) (lf (o392 P))) (.node (o200 P) (lf (o328 P)) .nil)) (.node (o104 P) (.node (o168 P) (lf (o296 P)) (lf (o424 P))) (.node (so d3) (lf (o360 P)) .nil))) (.node (o56 P) (.node (o88 P) (.node (o152 P) (lf (o280 P)) (lf (o408 P))) (.node (o216 P) (lf (o344 P)) .nil)) (.node (o120 P) (.node (o184 P) (lf (o312 P)) (lf (o440 P))) (.node (o248 P) (lf (o376 P)) .nil))))) (.node (o12_2 P) (.node (o20 P) (.node (o36 P) (.node (o68 P) (.node (o132 P) (lf (o260 P)) (lf (o388 P))) (.node (o196 P) (lf (o324 P)) (lf (o452 P)))) (.node (o100 P) (.node (o164 P) (lf (o292 P)) (lf (o420 P))) (.node (o228 P) (lf (o356 P)) .nil))) (.node (o52 P) (.node (o84 P) (.node (o148 P) (lf (o276 P)) (lf (o404 P))) (.node (o212 P) (lf (o340 P)) .nil)) (.node (o116 P) (.node (o180 P) (lf (o308 P)) (lf (o436 P))) (.node (o244 P) (lf (o372 P)) .nil)))) (.node (o28 P) (.node (o44 P) (.node (o76 P) (.node (o140 P) (lf (o268 P)) (lf (o396 P))) (.node (o204 P) (lf (o332 P)) .nil)) (.node (o108 P) (.node (o172 P) (lf (o300 P)) (lf (o428 P))) (.node (o236 P) (lf (o364 P)) .nil))) (.node (o60 P) (.node (o92 P) (.node (o156 P) (lf (o284 P)) (lf (o412 P))) (.node (o220 P) (lf (o348 P)) .nil)) (.node (o124 P) (.node (o188 P) (lf (o316 P)) (lf (o444 P))) (.node (o252 P) (lf (o380 P)) .nil)))))) (.node (boot_o_6 P) (.node (boot_o_10 P) (.node (o18 P) (.node (o34 P) (.node (o66 P) (.node (o130 P) (lf (o258 P)) (lf (o386 P))) (.node (o194 P) (lf (o322 P)) (lf (o450 P)))) (.node (o98 P) (.node (o162 P) (lf (o290 P)) (lf (o418 P))) (.node (o226 P) (lf (o354 P)) .nil))) (.node (o50 P) (.node (o82 P) (.node (o146 P) (lf (o274 P)) (lf (o402 P))) (.node (o210 P) (lf (o338 P)) .nil)) (.node (o114 P) (.node (o178 P) (lf (o306 P)) (lf (o434 P))) (.node (o242 P) (lf (o370 P)) .nil)))) (.node (o26 P) (.node (o42 P) (.node (o74 P) (.node (o138 P) (lf (o266 P)) (lf (o394 P))) (.node (o202 P) (lf (o330 P)) .nil)) (.node (o106 P) (.node (o170 P) (lf (o298 P)) (lf (o426 P))) (.node (o234 P) (lf (o362 P)) .nil))) (.node (o58 P) (.node (o90 P) (.node (o154 P) (lf (o282 P)) (lf (o410 P))) (.node (o218 P) (lf (o346 P)) .nil)) (.node (o122 P) (.node (o186 P) (lf (o314 P)) (lf (o442 P))) (.node (o250 P) (lf (o378 P)) .nil))))) (.node (o14 P) (.node (o22 P) (.node (o38 P) (.node (o70 P) (.node (o134 P) (lf (o262 P)) (lf (o390 P))) (.node (o198 P) (lf (o326 P)) .nil)) (.node (o102 P) (.node (o166 P) (lf (o294 P)) (lf (o422 P))) (.node (so d1) (lf (o358 P)) .nil))) (.node (o54 P) (.node (o86 P) (.node (o150 P) (lf (o278 P)) (lf (o406 P))) (.node (o214 P) (lf (o342 P)) .nil)) (.node (o118 P) (.node (o182 P) (lf (o310 P)) (lf (o438 P))) (.node (o246 P) (lf (o374 P)) .nil)))) (.node (o30 P) (.node (o46 P) (.node (o78 P) (.node (o142 P) (lf (o270 P)) (lf (o398 P))) (.node (o206 P) (lf (o334 P)) .nil)) (.node (o110 P) (.node (o174 P) (lf (o302 P)) (lf (o430 P))) (.node (o238 P) (lf (o366 P)) .nil))) (.node (o62 P) (.node (o94 P) (.node (o158 P) (lf (o286 P)) (lf (o414 P))) (.node (o222 P) (lf (o350 P)) .nil)) (.node (o126 P) (.node (o190 P) (lf (o318 P)) (lf (o446 P))) (.node (o254 P) (lf (o382 P)) .nil))))))))
noncomputable def sC12 (P : Params) (d1 d2 d3 : Data) (T : Nat) (os : OsState) : SharedT := ⟨TC12 P d1 d2 d3, 454, {}, #[], {}, T, os⟩
noncomputable def o225_7 (P : Params) : Obj := ⟨(.type "dict"), none, (.dict #[en P "__module__" 468 (.str (Str.ofString "snowballstemmer.swedish_stemmer") 459), en P "__qualname__" 470 (.str (Str.ofString "SwedishStemmer") 469), en P "__firstlineno__" 472 (.int 168 471), en P "g_v" 491 (.ref 230), en P "g_s_ending" 526 (.ref 231), en P "g_ost_ending" 545 (.ref 232), en P "I_p1" 547 (.int 0 546), en P "r_mark_regions" 556 (.ref 239), en P "r_et_condition" 565 (.ref 246), en P "r_main_suffix" 575 (.ref 253), en P "r_consonant_pair" 584 (.ref 260), en P "r_other_suffix" 593 (.ref 267), en P "_stem" 604 (.ref 274), en P "a_0" 920 (.ref 338), en P "a_1" 1427 (.ref 453), en P "a_2" 1533 (.ref 475), en P "a_3" 1603 (.ref 491)] 17), #[]⟩
noncomputable def o454 (P : Params) : Obj := ⟨(.type "dict"), none, (.dict #[en P "s" 1438 (.str (Str.ofString "dd") 1428), en P "substring_i" 1440 (.int (-1) 1430), en P "result" 1442 (.int (-1) 1432)] 3), #[]⟩
noncomputable def o455 (P : Params) : Obj := ⟨(.ref 218), some 454, .plain, #[]⟩
noncomputable def o456 (P : Params) : Obj := ⟨(.type "frame"), none, (.dict #[en P "self" 1433 (.ref 455), en P "s" 1434 (.str (Str.ofString "dd") 1428), en P "substring_i" 1435 (.int (-1) 1430), en P "result" 1436 (.int (-1) 1432)] 4), #[]⟩
noncomputable def o457 (P : Params) : Obj := ⟨(.type "dict"), none, (.dict #[en P "s" 1453 (.str (Str.ofString "gd") 1443), en P "substring_i" 1455 (.int (-1) 1445), en P "result" 1457 (.int (-1) 1447)] 3), #[]⟩
noncomputable def o458 (P : Params) : Obj := ⟨(.ref 218), some 457, .plain, #[]⟩
noncomputable def o459 (P : Params) : Obj := ⟨(.type "frame"), none, (.dict #[en P "self" 1448 (.ref 458), en P "s" 1449 (.str (Str.ofString "gd") 1443), en P "substring_i" 1450 (.int (-1) 1445), en P "result" 1451 (.int (-1) 1447)] 4), #[]⟩
noncomputable def o460 (P : Params) : Obj := ⟨(.type "dict"), none, (.dict #[en P "s" 1468 (.str (Str.ofString "nn") 1458), en P "substring_i" 1470 (.int (-1) 1460), en P "result" 1472 (.int (-1) 1462)] 3), #[]⟩
noncomputable def o461 (P : Params) : Obj := ⟨(.ref 218), some 460, .plain, #[]⟩
noncomputable def o462 (P : Params) : Obj := ⟨(.type "frame"), none, (.dict #[en P "self" 1463 (.ref 461), en P "s" 1464 (.str (Str.ofString "nn") 1458), en P "substring_i" 1465 (.int (-1) 1460), en P "result" 1466 (.int (-1) 1462)] 4), #[]⟩
noncomputable def o463 (P : Params) : Obj := ⟨(.type "dict"), none, (.dict #[en P "s" 1483 (.str (Str.ofString "dt") 1473), en P "substring_i" 1485 (.int (-1) 1475), en P "result" 1487 (.int (-1) 1477)] 3), #[]⟩
noncomputable def o464 (P : Params) : Obj := ⟨(.ref 218), some 463, .plain, #[]⟩
noncomputable def o465 (P : Params) : Obj := ⟨(.type "frame"), none, (.dict #[en P "self" 1478 (.ref 464), en P "s" 1479 (.str (Str.ofString "dt") 1473), en P "substring_i" 1480 (.int (-1) 1475), en P "result" 1481 (.int (-1) 1477)] 4), #[]⟩
noncomputable def o466 (P : Params) : Obj := ⟨(.type "dict"), none, (.dict #[en P "s" 1498 (.str (Str.ofString "gt") 1488), en P "substring_i" 1500 (.int (-1) 1490), en P "result" 1502 (.int (-1) 1492)] 3), #[]⟩
noncomputable def o467 (P : Params) : Obj := ⟨(.ref 218), some 466, .plain, #[]⟩
noncomputable def o468 (P : Params) : Obj := ⟨(.type "frame"), none, (.dict #[en P "self" 1493 (.ref 467), en P "s" 1494 (.str (Str.ofString "gt") 1488), en P "substring_i" 1495 (.int (-1) 1490), en P "result" 1496 (.int (-1) 1492)] 4), #[]⟩
noncomputable def o469 (P : Params) : Obj := ⟨(.type "dict"), none, (.dict #[en P "s" 1513 (.str (Str.ofString "kt") 1503), en P "substring_i" 1515 (.int (-1) 1505), en P "result" 1517 (.int (-1) 1507)] 3), #[]⟩
noncomputable def o470 (P : Params) : Obj := ⟨(.ref 218), some 469, .plain, #[]⟩
noncomputable def o471 (P : Params) : Obj := ⟨(.type "frame"), none, (.dict #[en P "self" 1508 (.ref 470), en P "s" 1509 (.str (Str.ofString "kt") 1503), en P "substring_i" 1510 (.int (-1) 1505), en P "result" 1511 (.int (-1) 1507)] 4), #[]⟩
noncomputable def o472 (P : Params) : Obj := ⟨(.type "dict"), none, (.dict #[en P "s" 1528 (.str (Str.ofString "tt") 1518), en P "substring_i" 1530 (.int (-1) 1520), en P "result" 1532 (.int (-1) 1522)] 3), #[]⟩
noncomputable def o473 (P : Params) : Obj := ⟨(.ref 218), some 472, .plain, #[]⟩
noncomputable def o474 (P : Params) : Obj := ⟨(.type "frame"), none, (.dict #[en P "self" 1523 (.ref 473), en P "s" 1524 (.str (Str.ofString "tt") 1518), en P "substring_i" 1525 (.int (-1) 1520), en P "result" 1526 (.int (-1) 1522)] 4), #[]⟩
noncomputable def o475 (P : Params) : Obj := ⟨(.type "list"), none, (.seq #[(.ref 455), (.ref 458), (.ref 461), (.ref 464), (.ref 467), (.ref 470), (.ref 473)] 0), #[]⟩
noncomputable def o476 (P : Params) : Obj := ⟨(.type "dict"), none, (.dict #[en P "s" 1543 (.str (Str.ofString "ig") 1534), en P "substring_i" 1545 (.int (-1) 1536), en P "result" 1547 (.int 1 1537)] 3), #[]⟩
noncomputable def o477 (P : Params) : Obj := ⟨(.ref 218), some 476, .plain, #[]⟩
noncomputable def o478 (P : Params) : Obj := ⟨(.type "frame"), none, (.dict #[en P "self" 1538 (.ref 477), en P "s" 1539 (.str (Str.ofString "ig") 1534), en P "substring_i" 1540 (.int (-1) 1536), en P "result" 1541 (.int 1 1537)] 4), #[]⟩
noncomputable def o479 (P : Params) : Obj := ⟨(.type "dict"), none, (.dict #[en P "s" 1556 (.str (Str.ofString "lig") 1548), en P "substring_i" 1558 (.int 0 1549), en P "result" 1560 (.int 1 1550)] 3), #[]⟩
noncomputable def o480 (P : Params) : Obj := ⟨(.ref 218), some 479, .plain, #[]⟩
noncomputable def o481 (P : Params) : Obj := ⟨(.type "frame"), none, (.dict #[en P "self" 1551 (.ref 480), en P "s" 1552 (.str (Str.ofString "lig") 1548), en P "substring_i" 1553 (.int 0 1549), en P "result" 1554 (.int 1 1550)] 4), #[]⟩
noncomputable def o482 (P : Params) : Obj := ⟨(.type "dict"), none, (.dict #[en P "s" 1570 (.str (Str.ofString "els") 1561), en P "substring_i" 1572 (.int (-1) 1563), en P "result" 1574 (.int 1 1564)] 3), #[]⟩
noncomputable def o483 (P : Params) : Obj := ⟨(.ref 218), some 482, .plain, #[]⟩
noncomputable def o484 (P : Params) : Obj := ⟨(.type "frame"), none, (.dict #[en P "self" 1565 (.ref 483), en P "s" 1566 (.str (Str.ofString "els") 1561), en P "substring_i" 1567 (.int (-1) 1563), en P "result" 1568 (.int 1 1564)] 4), #[]⟩
noncomputable def o485 (P : Params) : Obj := ⟨(.type "dict"), none, (.dict #[en P "s" 1584 (.str (Str.ofString "fullt") 1575), en P "substring_i" 1586 (.int (-1) 1577), en P "result" 1588 (.int 3 1578)] 3), #[]⟩
noncomputable def o486 (P : Params) : Obj := ⟨(.ref 218), some 485, .plain, #[]⟩
noncomputable def o487 (P : Params) : Obj := ⟨(.type "frame"), none, (.dict #[en P "self" 1579 (.ref 486), en P "s" 1580 (.str (Str.ofString "fullt") 1575), en P "substring_i" 1581 (.int (-1) 1577), en P "result" 1582 (.int 3 1578)] 4), #[]⟩
noncomputable def o488 (P : Params) : Obj := ⟨(.type "dict"), none, (.dict #[en P "s" 1598 (.str (Str.ofString "öst") 1589), en P "substring_i" 1600 (.int (-1) 1591), en P "result" 1602 (.int 2 1592)] 3), #[]⟩
noncomputable def o489 (P : Params) : Obj := ⟨(.ref 218), some 488, .plain, #[]⟩
noncomputable def o490 (P : Params) : Obj := ⟨(.type "frame"), none, (.dict #[en P "self" 1593 (.ref 489), en P "s" 1594 (.str (Str.ofString "öst") 1589), en P "substring_i" 1595 (.int (-1) 1591), en P "result" 1596 (.int 2 1592)] 4), #[]⟩
noncomputable def o491 (P : Params) : Obj := ⟨(.type "list"), none, (.seq #[(.ref 477), (.ref 480), (.ref 483), (.ref 486), (.ref 489)] 0), #[]⟩
noncomputable def TC14 (P : Params) (d1 d2 d3 : Data) : BT := (.node (boot_o_0 P) (.node (boot_o_1 P) (.node (o3_1 P) (.node (boot_o_7 P) (.node (o15 P) (.node (o31 P) (.node (o63 P) (.node (o127 P) (lf (o255 P)) (lf (o383 P))) (.node (o191 P) (lf (o319 P)) (lf (o447 P)))) (.node (o95 P) (.node (o159 P) (lf (o287 P)) (lf (o415 P))) (.node (o223 P) (lf (o351 P)) (lf (o479 P))))) (.node (o47 P) (.node (o79 P) (.node (o143 P) (lf (o271 P)) (lf (o399 P))) (.node (o207 P) (lf (o335 P)) (lf (o463 P)))) (.node (o111 P) (.node (o175 P) (lf (o303 P)) (lf (o431 P))) (.node (o239 P) (lf (o367 P)) .nil)))) (.node (o23 P) (.node (o39 P) (.node (o71 P) (.node (o135 P) (lf (o263 P)) (lf (o391 P))) (.node (o199 P) (lf (o327 P)) (lf (o455 P)))) (.node (o103 P) (.node (o167 P) (lf (o295 P)) (lf (o423 P))) (.node (so d2) (lf (o359 P)) (lf (o487 P))))) (.node (o55 P) (.node (o87 P) (.node (o151 P) (lf (o279 P)) (lf (o407 P))) (.node (o215 P) (lf (o343 P)) (lf (o471 P)))) (.node (o119 P) (.node (o183 P) (lf (o311 P)) (lf (o439 P))) (.node (o247 P) (lf (o375 P)) .nil))))) (.node (o11 P) (.node (o19 P) (.node (o35 P) (.node (o67 P) (.node (o131 P) (lf (o259 P)) (lf (o387 P))) (.node (o195 P) (lf (o323 P)) (lf (o451 P)))) (.node (o99 P) (.node (o163 P) (lf (o291 P)) (lf (o419 P))) (.node (o227_1 P) (lf (o355 P)) (lf (o483 P))))) (.node (o51 P) (.node (o83 P) (.node (o147 P) (lf (o275 P)) (lf (o403 P))) (.node (o211 P) (lf (o339 P)) (lf (o467 P)))) (.node (o115 P) (.node (o179 P) (lf (o307 P)) (lf (o435 P))) (.node (o243 P) (lf (o371 P)) .nil)))) (.node (o27 P) (.node (o43 P) (.node (o75 P) (.node (o139 P) (lf (o267 P)) (lf (o395 P))) (.node (o203 P) (lf (o331 P)) (lf (o459 P)))) (.node (o107 P) (.node (o171 P) (lf (o299 P)) (lf (o427 P))) (.node (o235 P) (lf (o363 P)) (lf (o491 P))))) (.node (o59 P) (.node (o91 P) (.node (o155 P) (lf (o283 P)) (lf (o411 P))) (.node (o219 P) (lf (o347 P)) (lf (o475 P)))) (.node (o123 P) (.node (o187 P) (lf (o315 P)) (lf (o443 P))) (.node (o251 P) (lf (o379 P)) .nil)))))) (.node (boot_o_5 P) (.node (boot_o_9 P) (.node (o17 P) (.node (o33 P) (.node (o65 P) (.node (o129 P) (lf (o257 P)) (lf (o385 P))) (.node (o193 P) (lf (o321 P)) (lf (o449 P)))) (.node (o97 P) (.node (o161 P) (lf (o289 P)) (lf (o417 P))) (.node (o225_7 P) (lf (o353 P)) (lf (o481 P))))) (.node (o49 P) (.node (o81 P) (.node (o145 P) (lf (o273 P)) (lf (o401 P))) (.node (o209 P) (lf (o337 P)) (lf (o465 P)))) (.node (o113 P) (.node (o177 P) (lf (o305 P)) (lf (o433 P))) (.node (o241 P) (lf (o369 P)) .nil)))) (.node (o25 P) (.node (o41 P) (.node (o73 P) (.node (o137 P) (lf (o265 P)) (lf (o393 P))) (.node (o201 P) (lf (o329 P)) (lf (o457 P)))) (.node (o105 P) (.node (o169 P) (lf (o297 P)) (lf (o425 P))) (.node (o233 P) (lf (o361 P)) (lf (o489 P))))) (.node (o57 P) (.node (o89 P) (.node (o153 P) (lf (o281 P)) (lf (o409 P))) (.node (o217 P) (lf (o345 P)) (lf (o473 P)))) (.node (o121 P) (.node (o185 P) (lf (o313 P)) (lf (o441 P))) (.node (o249 P) (lf (o377 P)) .nil))))) (.node (o13 P) (.node (o21 P) (.node (o37 P) (.node (o69 P) (.node (o133 P) (lf (o261 P)) (lf (o389 P))) (.node (o197 P) (lf (o325 P)) (lf (o453 P)))) (.node (o101 P) (.node (o165 P) (lf (o293 P)) (lf (o421 P))) (.node (o229 P) (lf (o357 P)) (lf (o485 P))))) (.node (o53 P) (.node (o85 P) (.node (o149 P) (lf (o277 P)) (lf (o405 P))) (.node (o213 P) (lf (o341 P)) (lf (o469 P)))) (.node (o117 P) (.node (o181 P) (lf (o309 P)) (lf (o437 P))) (.node (o245 P) (lf (o373 P)) .nil)))) (.node (o29 P) (.node (o45 P) (.node (o77 P) (.node (o141 P) (lf (o269 P)) (lf (o397 P))) (.node (o205 P) (lf (o333 P)) (lf (o461 P)))) (.node (o109 P) (.node (o173 P) (lf (o301 P)) (lf (o429 P))) (.node (o237 P) (lf (o365 P)) .nil))) (.node (o61 P) (.node (o93 P) (.node (o157 P) (lf (o285 P)) (lf (o413 P))) (.node (o221 P) (lf (o349 P)) (lf (o477 P)))) (.node (o125 P) (.node (o189 P) (lf (o317 P)) (lf (o445 P))) (.node (o253 P) (lf (o381 P)) .nil))))))) (.node (o2 P) (.node (boot_o_4 P) (.node (boot_o_8 P) (.node (o16 P) (.node (o32 P) (.node (o64 P) (.node (o128 P) (lf (o256 P)) (lf (o384 P))) (.node (o192 P) (lf (o320 P)) (lf (o448 P)))) (.node (o96 P) (.node (o160 P) (lf (o288 P)) (lf (o416 P))) (.node (o224 P) (lf (o352 P)) (lf (o480 P))))) (.node (o48 P) (.node (o80 P) (.node (o144 P) (lf (o272 P)) (lf (o400 P))) (.node (o208 P) (lf (o336 P)) (lf (o464 P)))) (.node (o112 P) (.node (o176 P) (lf (o304 P)) (lf (o432 P))) (.node (o240 P) (lf (o368 P)) .nil)))) (.node (o24 P) (.node (o40 P) (.node (o72 P) (.node (o136 P) (lf (o264 P)) (lf (o392 P))) (.node (o200 P) (lf (o328 P)) (lf (o456 P)))) (.node (o104 P) (.node (o168 P) (lf (o296 P)) (lf (o424 P))) (.node (so d3) (lf (o360 P)) (lf (o488 P))))) (.node (o56 P) (.node (o88 P) (.node (o152 P) (lf (o280 P)) (lf (o408 P))) (.node (o216 P) (lf (o344 P)) (lf (o472 P)))) (.node (o120 P) (.node (o184 P) (lf (o312 P)) (lf (o440 P))) (.node (o248 P) (lf (o376 P)) .nil))))) (.node (o12_2 P) (.node (o20 P) (.node (o36 P) (.node (o68 P) (.node (o132 P) (lf (o260 P)) (lf (o388 P))) (.node (o196 P) (lf (o324 P)) (lf (o452 P)))) (.node (o100 P) (.node (o164 P) (lf (o292 P)) (lf (o420 P))) (.node (o228 P) (lf (o356 P)) (lf (o484 P))))) (.node (o52 P) (.node (o84 P) (.node (o148 P) (lf (o276 P)) (lf (o404 P))) (.node (o212 P) (lf (o340 P)) (lf (o468 P)))) (.node (o116 P) (.node (o180 P) (lf (o308 P)) (lf (o436 P))) (.node (o244 P) (lf (o372 P)) .nil)))) (.node (o28 P) (.node (o44 P) (.node (o76 P) (.node (o140 P) (lf (o268 P)) (lf (o396 P))) (.node (o204 P) (lf (o332 P)) (lf (o460 P)))) (.node (o108 P) (.node (o172 P) (lf (o300 P)) (lf (o428 P))) (.node (o236 P) (lf (o364 P)) .nil))) (.node (o60 P) (.node (o92 P) (.node (o156 P) (lf (o284 P)) (lf (o412 P))) (.node (o220 P) (lf (o348 P)) (lf (o476 P)))) (.node (o124 P) (.node (o188 P) (lf (o316 P)) (lf (o444 P))) (.node (o252 P) (lf (o380 P)) .nil)))))) (.node (boot_o_6 P) (.node (boot_o_10 P) (.node (o18 P) (.node (o34 P) (.node (o66 P) (.node (o130 P) (lf (o258 P)) (lf (o386 P))) (.node (o194 P) (lf (o322 P)) (lf (o450 P)))) (.node (o98 P) (.node (o162 P) (lf (o290 P)) (lf (o418 P))) (.node (o226 P) (lf (o354 P)) (lf (o482 P))))) (.node (o50 P) (.node (o82 P) (.node (o146 P) (lf (o274 P)) (lf (o402 P))) (.node (o210 P) (lf (o338 P)) (lf (o466 P)))) (.node (o114 P) (.node (o178 P) (lf (o306 P)) (lf (o434 P))) (.node (o242 P) (lf (o370 P)) .nil)))) (.node (o26 P) (.node (o42 P) (.node (o74 P) (.node (o138 P) (lf (o266 P)) (lf (o394 P))) (.node (o202 P) (lf (o330 P)) (lf (o458 P)))) (.node (o106 P) (.node (o170 P) (lf (o298 P)) (lf (o426 P))) (.node (o234 P) (lf (o362 P)) (lf (o490 P))))) (.node (o58 P) (.node (o90 P) (.node (o154 P) (lf (o282 P)) (lf (o410 P))) (.node (o218 P) (lf (o346 P)) (lf (o474 P)))) (.node (o122 P) (.node (o186 P) (lf (o314 P)) (lf (o442 P))) (.node (o250 P) (lf (o378 P)) .nil))))) (.node (o14 P) (.node (o22 P) (.node (o38 P) (.node (o70 P) (.node (o134 P) (lf (o262 P)) (lf (o390 P))) (.node (o198 P) (lf (o326 P)) (lf (o454 P)))) (.node (o102 P) (.node (o166 P) (lf (o294 P)) (lf (o422 P))) (.node (so d1) (lf (o358 P)) (lf (o486 P))))) (.node (o54 P) (.node (o86 P) (.node (o150 P) (lf (o278 P)) (lf (o406 P))) (.node (o214 P) (lf (o342 P)) (lf (o470 P)))) (.node (o118 P) (.node (o182 P) (lf (o310 P)) (lf (o438 P))) (.node (o246 P) (lf (o374 P)) .nil)))) (.node (o30 P) (.node (o46 P) (.node (o78 P) (.node (o142 P) (lf (o270 P)) (lf (o398 P))) (.node (o206 P) (lf (o334 P)) (lf (o462 P)))) (.node (o110 P) (.node (o174 P) (lf (o302 P)) (lf (o430 P))) (.node (o238 P) (lf (o366 P)) .nil))) (.node (o62 P) (.node (o94 P) (.node (o158 P) (lf (o286 P)) (lf (o414 P))) (.node (o222 P) (lf (o350 P)) (lf (o478 P)))) (.node (o126 P) (.node (o190 P) (lf (o318 P)) (lf (o446 P))) (.node (o254 P) (lf (o382 P)) .nil))))))))
noncomputable def sC14 (P : Params) (d1 d2 d3 : Data) (T : Nat) (os : OsState) : SharedT := ⟨TC14 P d1 d2 d3, 492, {}, #[], {}, T, os⟩
noncomputable def o3_2 (P : Params) : Obj := ⟨(.type "dict"), none, (.dict #[en P "__name__" 165 (.str (Str.ofString "snowballstemmer.swedish_stemmer") 459), en P "__doc__" 166 .none, en P "__package__" 167 .none, en P "__loader__" 168 (.builtin "__main__.__loader__#opaque"), en P "__spec__" 169 .none, en P "__annotations__" 170 (.ref 6), en P "__builtins__" 171 (.ref 4), en P "__file__" 173 (.str (Str.ofString "/claim/cut.py") 172), en P "__cached__" 174 .none, en P "_wall" 193 (.ref 21), en P "BaseStemmer" 423 (.ref 197), en P "Among" 458 (.ref 218), en P "SwedishStemmer" 1612 (.ref 494)] 13), #[]⟩
noncomputable def o197_1 (P : Params) : Obj := ⟨(.type "type"), none, (.cls { name := (Str.ofString "BaseStemmer"), bases := [(.type "object")], mro := [(.ref 197), (.type "object")], ns := 196, qualname := (Str.ofString "BaseStemmer"), subclasses := [(.ref 494)] }), #[none, none, some (.str (Str.ofString "BaseStemmer") 196), some (.str (Str.ofString "BaseStemmer") 204), some (.builtin "object.__new__"), some (.bool true)]⟩
noncomputable def o225_8 (P : Params) : Obj := ⟨(.type "dict"), none, (.dict #[en P "__module__" 468 (.str (Str.ofString "snowballstemmer.swedish_stemmer") 459), en P "__qualname__" 470 (.str (Str.ofString "SwedishStemmer") 469), en P "__firstlineno__" 472 (.int 168 471), en P "g_v" 491 (.ref 230), en P "g_s_ending" 526 (.ref 231), en P "g_ost_ending" 545 (.ref 232), en P "I_p1" 547 (.int 0 546), en P "r_mark_regions" 556 (.ref 239), en P "r_et_condition" 565 (.ref 246), en P "r_main_suffix" 575 (.ref 253), en P "r_consonant_pair" 584 (.ref 260), en P "r_other_suffix" 593 (.ref 267), en P "_stem" 604 (.ref 274), en P "a_0" 920 (.ref 338), en P "a_1" 1427 (.ref 453), en P "a_2" 1533 (.ref 475), en P "a_3" 1603 (.ref 491), en P "__static_attributes__" 1609 (.ref 492)] 18), #[]⟩
noncomputable def o492 (P : Params) : Obj := ⟨(.type "tuple"), none, (.seq #[(.str (Str.ofString "I_p1") 1604), (.str (Str.ofString "bra") 1605), (.str (Str.ofString "cursor") 1606), (.str (Str.ofString "ket") 1607), (.str (Str.ofString "limit_backward") 1608)] 0), #[]⟩
noncomputable def o493 (P : Params) : Obj := ⟨(.type "dict"), none, (.dict #[en P "__module__" 468 (.str (Str.ofString "snowballstemmer.swedish_stemmer") 459), en P "__firstlineno__" 472 (.int 168 471), en P "g_v" 491 (.ref 230), en P "g_s_ending" 526 (.ref 231), en P "g_ost_ending" 545 (.ref 232), en P "I_p1" 547 (.int 0 546), en P "r_mark_regions" 556 (.ref 239), en P "r_et_condition" 565 (.ref 246), en P "r_main_suffix" 575 (.ref 253), en P "r_consonant_pair" 584 (.ref 260), en P "r_other_suffix" 593 (.ref 267), en P "_stem" 604 (.ref 274), en P "a_0" 920 (.ref 338), en P "a_1" 1427 (.ref 453), en P "a_2" 1533 (.ref 475), en P "a_3" 1603 (.ref 491), en P "__static_attributes__" 1609 (.ref 492), en P "__doc__" 1610 .none] 2), #[]⟩
noncomputable def o494 (P : Params) : Obj := ⟨(.type "type"), none, (.cls { name := (Str.ofString "SwedishStemmer"), bases := [(.ref 197)], mro := [(.ref 494), (.ref 197), (.type "object")], ns := 493, qualname := (Str.ofString "SwedishStemmer"), subclasses := [] }), #[some (.ref 223), none, some (.str (Str.ofString "SwedishStemmer") 461), some (.str (Str.ofString "SwedishStemmer") 469), some (.builtin "object.__new__"), some (.bool true)]⟩
noncomputable def o495 (P : Params) : Obj := ⟨(.type "super"), none, (.fields #[(.ref 494), (.ref 494), (.ref 494)]), #[]⟩
noncomputable def o496 (P : Params) : Obj := ⟨(.type "builtin_function_or_method"), none, (.fields #[(.builtin "object.__init_subclass__"), (.ref 494)]), #[]⟩
noncomputable def T7 (P : Params) (d1 d2 d3 : Data) : BT := (.node (boot_o_0 P) (.node (boot_o_1 P) (.node (o3_2 P) (.node (boot_o_7 P) (.node (o15 P) (.node (o31 P) (.node (o63 P) (.node (o127 P) (lf (o255 P)) (lf (o383 P))) (.node (o191 P) (lf (o319 P)) (lf (o447 P)))) (.node (o95 P) (.node (o159 P) (lf (o287 P)) (lf (o415 P))) (.node (o223 P) (lf (o351 P)) (lf (o479 P))))) (.node (o47 P) (.node (o79 P) (.node (o143 P) (lf (o271 P)) (lf (o399 P))) (.node (o207 P) (lf (o335 P)) (lf (o463 P)))) (.node (o111 P) (.node (o175 P) (lf (o303 P)) (lf (o431 P))) (.node (o239 P) (lf (o367 P)) (lf (o495 P)))))) (.node (o23 P) (.node (o39 P) (.node (o71 P) (.node (o135 P) (lf (o263 P)) (lf (o391 P))) (.node (o199 P) (lf (o327 P)) (lf (o455 P)))) (.node (o103 P) (.node (o167 P) (lf (o295 P)) (lf (o423 P))) (.node (so d2) (lf (o359 P)) (lf (o487 P))))) (.node (o55 P) (.node (o87 P) (.node (o151 P) (lf (o279 P)) (lf (o407 P))) (.node (o215 P) (lf (o343 P)) (lf (o471 P)))) (.node (o119 P) (.node (o183 P) (lf (o311 P)) (lf (o439 P))) (.node (o247 P) (lf (o375 P)) .nil))))) (.node (o11 P) (.node (o19 P) (.node (o35 P) (.node (o67 P) (.node (o131 P) (lf (o259 P)) (lf (o387 P))) (.node (o195 P) (lf (o323 P)) (lf (o451 P)))) (.node (o99 P) (.node (o163 P) (lf (o291 P)) (lf (o419 P))) (.node (o227_1 P) (lf (o355 P)) (lf (o483 P))))) (.node (o51 P) (.node (o83 P) (.node (o147 P) (lf (o275 P)) (lf (o403 P))) (.node (o211 P) (lf (o339 P)) (lf (o467 P)))) (.node (o115 P) (.node (o179 P) (lf (o307 P)) (lf (o435 P))) (.node (o243 P) (lf (o371 P)) .nil)))) (.node (o27 P) (.node (o43 P) (.node (o75 P) (.node (o139 P) (lf (o267 P)) (lf (o395 P))) (.node (o203 P) (lf (o331 P)) (lf (o459 P)))) (.node (o107 P) (.node (o171 P) (lf (o299 P)) (lf (o427 P))) (.node (o235 P) (lf (o363 P)) (lf (o491 P))))) (.node (o59 P) (.node (o91 P) (.node (o155 P) (lf (o283 P)) (lf (o411 P))) (.node (o219 P) (lf (o347 P)) (lf (o475 P)))) (.node (o123 P) (.node (o187 P) (lf (o315 P)) (lf (o443 P))) (.node (o251 P) (lf (o379 P)) .nil)))))) (.node (boot_o_5 P) (.node (boot_o_9 P) (.node (o17 P) (.node (o33 P) (.node (o65 P) (.node (o129 P) (lf (o257 P)) (lf (o385 P))) (.node (o193 P) (lf (o321 P)) (lf (o449 P)))) (.node (o97 P) (.node (o161 P) (lf (o289 P)) (lf (o417 P))) (.node (o225_8 P) (lf (o353 P)) (lf (o481 P))))) (.node (o49 P) (.node (o81 P) (.node (o145 P) (lf (o273 P)) (lf (o401 P))) (.node (o209 P) (lf (o337 P)) (lf (o465 P)))) (.node (o113 P) (.node (o177 P) (lf (o305 P)) (lf (o433 P))) (.node (o241 P) (lf (o369 P)) .nil)))) (.node (o25 P) (.node (o41 P) (.node (o73 P) (.node (o137 P) (lf (o265 P)) (lf (o393 P))) (.node (o201 P) (lf (o329 P)) (lf (o457 P)))) (.node (o105 P) (.node (o169 P) (lf (o297 P)) (lf (o425 P))) (.node (o233 P) (lf (o361 P)) (lf (o489 P))))) (.node (o57 P) (.node (o89 P) (.node (o153 P) (lf (o281 P)) (lf (o409 P))) (.node (o217 P) (lf (o345 P)) (lf (o473 P)))) (.node (o121 P) (.node (o185 P) (lf (o313 P)) (lf (o441 P))) (.node (o249 P) (lf (o377 P)) .nil))))) (.node (o13 P) (.node (o21 P) (.node (o37 P) (.node (o69 P) (.node (o133 P) (lf (o261 P)) (lf (o389 P))) (.node (o197_1 P) (lf (o325 P)) (lf (o453 P)))) (.node (o101 P) (.node (o165 P) (lf (o293 P)) (lf (o421 P))) (.node (o229 P) (lf (o357 P)) (lf (o485 P))))) (.node (o53 P) (.node (o85 P) (.node (o149 P) (lf (o277 P)) (lf (o405 P))) (.node (o213 P) (lf (o341 P)) (lf (o469 P)))) (.node (o117 P) (.node (o181 P) (lf (o309 P)) (lf (o437 P))) (.node (o245 P) (lf (o373 P)) .nil)))) (.node (o29 P) (.node (o45 P) (.node (o77 P) (.node (o141 P) (lf (o269 P)) (lf (o397 P))) (.node (o205 P) (lf (o333 P)) (lf (o461 P)))) (.node (o109 P) (.node (o173 P) (lf (o301 P)) (lf (o429 P))) (.node (o237 P) (lf (o365 P)) (lf (o493 P))))) (.node (o61 P) (.node (o93 P) (.node (o157 P) (lf (o285 P)) (lf (o413 P))) (.node (o221 P) (lf (o349 P)) (lf (o477 P)))) (.node (o125 P) (.node (o189 P) (lf (o317 P)) (lf (o445 P))) (.node (o253 P) (lf (o381 P)) .nil))))))) (.node (o2 P) (.node (boot_o_4 P) (.node (boot_o_8 P) (.node (o16 P) (.node (o32 P) (.node (o64 P) (.node (o128 P) (lf (o256 P)) (lf (o384 P))) (.node (o192 P) (lf (o320 P)) (lf (o448 P)))) (.node (o96 P) (.node (o160 P) (lf (o288 P)) (lf (o416 P))) (.node (o224 P) (lf (o352 P)) (lf (o480 P))))) (.node (o48 P) (.node (o80 P) (.node (o144 P) (lf (o272 P)) (lf (o400 P))) (.node (o208 P) (lf (o336 P)) (lf (o464 P)))) (.node (o112 P) (.node (o176 P) (lf (o304 P)) (lf (o432 P))) (.node (o240 P) (lf (o368 P)) (lf (o496 P)))))) (.node (o24 P) (.node (o40 P) (.node (o72 P) (.node (o136 P) (lf (o264 P)) (lf (o392 P))) (.node (o200 P) (lf (o328 P)) (lf (o456 P)))) (.node (o104 P) (.node (o168 P) (lf (o296 P)) (lf (o424 P))) (.node (so d3) (lf (o360 P)) (lf (o488 P))))) (.node (o56 P) (.node (o88 P) (.node (o152 P) (lf (o280 P)) (lf (o408 P))) (.node (o216 P) (lf (o344 P)) (lf (o472 P)))) (.node (o120 P) (.node (o184 P) (lf (o312 P)) (lf (o440 P))) (.node (o248 P) (lf (o376 P)) .nil))))) (.node (o12_2 P) (.node (o20 P) (.node (o36 P) (.node (o68 P) (.node (o132 P) (lf (o260 P)) (lf (o388 P))) (.node (o196 P) (lf (o324 P)) (lf (o452 P)))) (.node (o100 P) (.node (o164 P) (lf (o292 P)) (lf (o420 P))) (.node (o228 P) (lf (o356 P)) (lf (o484 P))))) (.node (o52 P) (.node (o84 P) (.node (o148 P) (lf (o276 P)) (lf (o404 P))) (.node (o212 P) (lf (o340 P)) (lf (o468 P)))) (.node (o116 P) (.node (o180 P) (lf (o308 P)) (lf (o436 P))) (.node (o244 P) (lf (o372 P)) .nil)))) (.node (o28 P) (.node (o44 P) (.node (o76 P) (.node (o140 P) (lf (o268 P)) (lf (o396 P))) (.node (o204 P) (lf (o332 P)) (lf (o460 P)))) (.node (o108 P) (.node (o172 P) (lf (o300 P)) (lf (o428 P))) (.node (o236 P) (lf (o364 P)) (lf (o492 P))))) (.node (o60 P) (.node (o92 P) (.node (o156 P) (lf (o284 P)) (lf (o412 P))) (.node (o220 P) (lf (o348 P)) (lf (o476 P)))) (.node (o124 P) (.node (o188 P) (lf (o316 P)) (lf (o444 P))) (.node (o252 P) (lf (o380 P)) .nil)))))) (.node (boot_o_6 P) (.node (boot_o_10 P) (.node (o18 P) (.node (o34 P) (.node (o66 P) (.node (o130 P) (lf (o258 P)) (lf (o386 P))) (.node (o194 P) (lf (o322 P)) (lf (o450 P)))) (.node (o98 P) (.node (o162 P) (lf (o290 P)) (lf (o418 P))) (.node (o226 P) (lf (o354 P)) (lf (o482 P))))) (.node (o50 P) (.node (o82 P) (.node (o146 P) (lf (o274 P)) (lf (o402 P))) (.node (o210 P) (lf (o338 P)) (lf (o466 P)))) (.node (o114 P) (.node (o178 P) (lf (o306 P)) (lf (o434 P))) (.node (o242 P) (lf (o370 P)) .nil)))) (.node (o26 P) (.node (o42 P) (.node (o74 P) (.node (o138 P) (lf (o266 P)) (lf (o394 P))) (.node (o202 P) (lf (o330 P)) (lf (o458 P)))) (.node (o106 P) (.node (o170 P) (lf (o298 P)) (lf (o426 P))) (.node (o234 P) (lf (o362 P)) (lf (o490 P))))) (.node (o58 P) (.node (o90 P) (.node (o154 P) (lf (o282 P)) (lf (o410 P))) (.node (o218 P) (lf (o346 P)) (lf (o474 P)))) (.node (o122 P) (.node (o186 P) (lf (o314 P)) (lf (o442 P))) (.node (o250 P) (lf (o378 P)) .nil))))) (.node (o14 P) (.node (o22 P) (.node (o38 P) (.node (o70 P) (.node (o134 P) (lf (o262 P)) (lf (o390 P))) (.node (o198 P) (lf (o326 P)) (lf (o454 P)))) (.node (o102 P) (.node (o166 P) (lf (o294 P)) (lf (o422 P))) (.node (so d1) (lf (o358 P)) (lf (o486 P))))) (.node (o54 P) (.node (o86 P) (.node (o150 P) (lf (o278 P)) (lf (o406 P))) (.node (o214 P) (lf (o342 P)) (lf (o470 P)))) (.node (o118 P) (.node (o182 P) (lf (o310 P)) (lf (o438 P))) (.node (o246 P) (lf (o374 P)) .nil)))) (.node (o30 P) (.node (o46 P) (.node (o78 P) (.node (o142 P) (lf (o270 P)) (lf (o398 P))) (.node (o206 P) (lf (o334 P)) (lf (o462 P)))) (.node (o110 P) (.node (o174 P) (lf (o302 P)) (lf (o430 P))) (.node (o238 P) (lf (o366 P)) (lf (o494 P))))) (.node (o62 P) (.node (o94 P) (.node (o158 P) (lf (o286 P)) (lf (o414 P))) (.node (o222 P) (lf (o350 P)) (lf (o478 P)))) (.node (o126 P) (.node (o190 P) (lf (o318 P)) (lf (o446 P))) (.node (o254 P) (lf (o382 P)) .nil))))))))
noncomputable def s7 (P : Params) (d1 d2 d3 : Data) (T : Nat) (os : OsState) : SharedT := ⟨T7 P d1 d2 d3, 497, {}, #[], {}, T, os⟩
noncomputable def o2_1 (P : Params) : Obj := ⟨.none, none, (.dict #[en P "type.__subclasses__.Exception.0" 1629 (.int 506 0), en P "type.__subclasses__.Exception.n" 1630 (.int 1 0)] 2), #[]⟩
noncomputable def o3_3 (P : Params) : Obj := ⟨(.type "dict"), none, (.dict #[en P "__name__" 165 (.str (Str.ofString "law_ip0002_01") 1633), en P "__doc__" 166 .none, en P "__package__" 167 .none, en P "__loader__" 168 (.builtin "__main__.__loader__#opaque"), en P "__spec__" 169 .none, en P "__annotations__" 170 (.ref 6), en P "__builtins__" 171 (.ref 4), en P "__file__" 173 (.str (Str.ofString "/claim/cut.py") 172), en P "__cached__" 174 .none, en P "_wall" 193 (.ref 21), en P "BaseStemmer" 423 (.ref 197), en P "Among" 458 (.ref 218), en P "SwedishStemmer" 1612 (.ref 494), en P "lab0" 1632 (.ref 506), en P "_law_vowels" 1640 (.ref 516), en P "_law_before_s" 1646 (.ref 523), en P "_law_before_ost" 1652 (.ref 530), en P "_law_stays" 1674 (.ref 531), en P "_law_first" 1713 (.ref 532), en P "_law_pairs" 1721 (.ref 533), en P "_law_third" 1727 (.ref 534), en P "_law_often" 1748 (.ref 535), en P "_law_rest" 1766 (.ref 536), en P "_law_signs" 1775 (.ref 537), en P "_law_begins" 1782 (.ref 538), en P "_law_region" 1791 (.ref 545), en P "_law_longest" 1801 (.ref 552), en P "_law_et_may_go" 1809 (.ref 559), en P "_law_stem" 1820 (.ref 566), en P "law" 1826 (.ref 571)] 30), #[]⟩
noncomputable def o12_3 (P : Params) : Obj := ⟨.none, none, (.fields #[(.int 1 0), (.int 0 0), (.ref 20), (.int 5 0), (.int 0 0), (.ref 27), (.int 161 0), (.int 0 0), (.ref 207), (.int 168 0), (.int 0 0), (.ref 228), (.int 316 0), (.int 0 0), (.ref 502), (.int 319 0), (.int 0 0), (.ref 515), (.int 321 0), (.int 0 0), (.ref 522), (.int 323 0), (.int 0 0), (.ref 529), (.int 333 0), (.int 0 0), (.ref 544), (.int 343 0), (.int 0 0), (.ref 551), (.int 349 0), (.int 0 0), (.ref 558), (.int 354 0), (.int 0 0), (.ref 565), (.int 381 0), (.int 0 0), (.ref 570)]), #[]⟩
noncomputable def o497 (P : Params) : Obj := ⟨(.type "tuple"), none, (.seq #[(.type "Exception")] 0), #[]⟩
noncomputable def o498 (P : Params) : Obj := ⟨(.type "builtin_function_or_method"), none, (.fields #[(.builtin "type.__prepare__"), (.type "type")]), #[]⟩
noncomputable def o499 (P : Params) : Obj := ⟨(.type "dict"), none, (.dict #[en P "__module__" 1620 (.str (Str.ofString "snowballstemmer.swedish_stemmer") 459), en P "__qualname__" 1622 (.str (Str.ofString "lab0") 1621), en P "__firstlineno__" 1624 (.int 316 1623), en P "__static_attributes__" 1625 (.ref 504)] 4), #[]⟩
noncomputable def o500 (P : Params) : Obj := ⟨(.type "tuple"), none, (.seq #[] 0), #[]⟩
noncomputable def o501 (P : Params) : Obj := ⟨.none, none, (.fields #[]), #[]⟩
noncomputable def o502 (P : Params) : Obj := ⟨(.type "code"), none, (.fields #[(.str (Str.ofString "lab0") 1615), (.str (Str.ofString "lab0") 1616), (.str (Str.ofString "/claim/cut.py") 1617), (.int 316 0), (.int 0 0), (.int 0 0), (.int 0 0), (.int 0 0), (.ref 500), (.bool false), (.int 181 0), (.ref 501), .none, .none, .none, .none, (.int 1618 0), (.int 316 0), (.str (Str.ofString "/claim/cut.py") 1619)]), #[]⟩
noncomputable def o503 (P : Params) : Obj := ⟨(.type "frame"), none, .plain, #[some (.ref 502), some (.ref 3), some (.ref 499), none, some (.str (Str.ofString "snowballstemmer.swedish_stemmer") 459), none, some (.ref 0)]⟩
noncomputable def o504 (P : Params) : Obj := ⟨(.type "tuple"), none, (.seq #[] 0), #[]⟩
noncomputable def o505 (P : Params) : Obj := ⟨(.type "dict"), none, (.dict #[en P "__module__" 1620 (.str (Str.ofString "snowballstemmer.swedish_stemmer") 459), en P "__firstlineno__" 1624 (.int 316 1623), en P "__static_attributes__" 1625 (.ref 504), en P "__weakref__" 1627 (.ref 507), en P "__doc__" 1628 .none] 3), #[]⟩
noncomputable def o506 (P : Params) : Obj := ⟨(.type "type"), none, (.cls { name := (Str.ofString "lab0"), bases := [(.type "Exception")], mro := [(.ref 506), (.type "Exception"), (.type "BaseException"), (.type "object")], ns := 505, qualname := (Str.ofString "lab0"), subclasses := [] }), #[some (.ref 497), none, some (.str (Str.ofString "lab0") 1613), some (.str (Str.ofString "lab0") 1621), some (.builtin "Exception.__new__"), some (.bool true)]⟩
noncomputable def o507 (P : Params) : Obj := ⟨(.type "getset_descriptor"), none, (.fields #[(.str (Str.ofString "__weakref__") 1626), (.ref 506), (.builtin "ExceptionGroup.__weakref__"), .none]), #[]⟩
noncomputable def o508 (P : Params) : Obj := ⟨(.type "super"), none, (.fields #[(.ref 506), (.ref 506), (.ref 506)]), #[]⟩
noncomputable def o509 (P : Params) : Obj := ⟨(.type "builtin_function_or_method"), none, (.fields #[(.builtin "object.__init_subclass__"), (.ref 506)]), #[]⟩
noncomputable def o510 (P : Params) : Obj := ⟨(.type "tuple"), none, (.seq #[] 0), #[]⟩
noncomputable def o511 (P : Params) : Obj := ⟨.none, none, (.fields #[]), #[]⟩
noncomputable def o512 (P : Params) : Obj := ⟨(.type "tuple"), none, (.seq #[] 0), #[]⟩
noncomputable def o513 (P : Params) : Obj := ⟨(.type "tuple"), none, (.seq #[] 0), #[]⟩
noncomputable def o514 (P : Params) : Obj := ⟨.none, none, (fnD (top 9) (Str.ofString "_law_vowels") 0 .none .none), #[]⟩
noncomputable def o515 (P : Params) : Obj := ⟨(.type "code"), none, (.fields #[(.str (Str.ofString "_law_vowels") 1635), (.str (Str.ofString "_law_vowels") 1636), (.str (Str.ofString "/claim/cut.py") 1637), (.int 319 0), (.int 0 0), (.int 0 0), (.int 0 0), (.int 3 0), (.ref 510), (.bool true), (.int 181 0), (.ref 511), .none, (.ref 512), (.ref 513), (.ref 514), (.int 1638 0), (.int 319 0), (.str (Str.ofString "/claim/cut.py") 1639)]), #[]⟩
noncomputable def o516 (P : Params) : Obj := ⟨(.type "function"), none, (fnD (top 9) (Str.ofString "_law_vowels") 3 (.str (Str.ofString "law_ip0002_01") 1633) (.ref 515)), #[]⟩
noncomputable def o517 (P : Params) : Obj := ⟨(.type "tuple"), none, (.seq #[] 0), #[]⟩
noncomputable def o518 (P : Params) : Obj := ⟨.none, none, (.fields #[]), #[]⟩
noncomputable def o519 (P : Params) : Obj := ⟨(.type "tuple"), none, (.seq #[] 0), #[]⟩
noncomputable def o520 (P : Params) : Obj := ⟨(.type "tuple"), none, (.seq #[] 0), #[]⟩
noncomputable def o521 (P : Params) : Obj := ⟨.none, none, (fnD (top 10) (Str.ofString "_law_before_s") 0 .none .none), #[]⟩
noncomputable def o522 (P : Params) : Obj := ⟨(.type "code"), none, (.fields #[(.str (Str.ofString "_law_before_s") 1641), (.str (Str.ofString "_law_before_s") 1642), (.str (Str.ofString "/claim/cut.py") 1643), (.int 321 0), (.int 0 0), (.int 0 0), (.int 0 0), (.int 3 0), (.ref 517), (.bool true), (.int 181 0), (.ref 518), .none, (.ref 519), (.ref 520), (.ref 521), (.int 1644 0), (.int 321 0), (.str (Str.ofString "/claim/cut.py") 1645)]), #[]⟩
noncomputable def o523 (P : Params) : Obj := ⟨(.type "function"), none, (fnD (top 10) (Str.ofString "_law_before_s") 3 (.str (Str.ofString "law_ip0002_01") 1633) (.ref 522)), #[]⟩
noncomputable def o524 (P : Params) : Obj := ⟨(.type "tuple"), none, (.seq #[] 0), #[]⟩
noncomputable def o525 (P : Params) : Obj := ⟨.none, none, (.fields #[]), #[]⟩
noncomputable def o526 (P : Params) : Obj := ⟨(.type "tuple"), none, (.seq #[] 0), #[]⟩
noncomputable def o527 (P : Params) : Obj := ⟨(.type "tuple"), none, (.seq #[] 0), #[]⟩
noncomputable def o528 (P : Params) : Obj := ⟨.none, none, (fnD (top 11) (Str.ofString "_law_before_ost") 0 .none .none), #[]⟩
noncomputable def o529 (P : Params) : Obj := ⟨(.type "code"), none, (.fields #[(.str (Str.ofString "_law_before_ost") 1647), (.str (Str.ofString "_law_before_ost") 1648), (.str (Str.ofString "/claim/cut.py") 1649), (.int 323 0), (.int 0 0), (.int 0 0), (.int 0 0), (.int 3 0), (.ref 524), (.bool true), (.int 181 0), (.ref 525), .none, (.ref 526), (.ref 527), (.ref 528), (.int 1650 0), (.int 323 0), (.str (Str.ofString "/claim/cut.py") 1651)]), #[]⟩
noncomputable def o530 (P : Params) : Obj := ⟨(.type "function"), none, (fnD (top 11) (Str.ofString "_law_before_ost") 3 (.str (Str.ofString "law_ip0002_01") 1633) (.ref 529)), #[]⟩
noncomputable def o531 (P : Params) : Obj := ⟨(.type "list"), none, (.seq #[(.str (Str.ofString "fab") 1653), (.str (Str.ofString "h") 1654), (.str (Str.ofString "pak") 1655), (.str (Str.ofString "rak") 1656), (.str (Str.ofString "stak") 1657), (.str (Str.ofString "kom") 1658), (.str (Str.ofString "iet") 1659), (.str (Str.ofString "cit") 1660), (.str (Str.ofString "dit") 1661), (.str (Str.ofString "alit") 1662), (.str (Str.ofString "ilit") 1663), (.str (Str.ofString "mit") 1664), (.str (Str.ofString "nit") 1665), (.str (Str.ofString "pit") 1666), (.str (Str.ofString "rit") 1667), (.str (Str.ofString "sit") 1668), (.str (Str.ofString "tit") 1669), (.str (Str.ofString "uit") 1670), (.str (Str.ofString "ivit") 1671), (.str (Str.ofString "kvit") 1672), (.str (Str.ofString "xit") 1673)] 0), #[]⟩
noncomputable def o532 (P : Params) : Obj := ⟨(.type "list"), none, (.seq #[(.str (Str.ofString "a") 1675), (.str (Str.ofString "arna") 1676), (.str (Str.ofString "erna") 1677), (.str (Str.ofString "orna") 1678), (.str (Str.ofString "heterna") 1679), (.str (Str.ofString "e") 1680), (.str (Str.ofString "ade") 1681), (.str (Str.ofString "ande") 1682), (.str (Str.ofString "arne") 1683), (.str (Str.ofString "are") 1684), (.str (Str.ofString "aste") 1685), (.str (Str.ofString "en") 1686), (.str (Str.ofString "anden") 1687), (.str (Str.ofString "aren") 1688), (.str (Str.ofString "heten") 1689), (.str (Str.ofString "ern") 1690), (.str (Str.ofString "ar") 1691), (.str (Str.ofString "er") 1692), (.str (Str.ofString "or") 1693), (.str (Str.ofString "heter") 1694), (.str (Str.ofString "ad") 1695), (.str (Str.ofString "at") 1696), (.str (Str.ofString "het") 1697), (.str (Str.ofString "andet") 1698), (.str (Str.ofString "ast") 1699), (.str (Str.ofString "as") 1700), (.str (Str.ofString "arnas") 1701), (.str (Str.ofString "ernas") 1702), (.str (Str.ofString "ornas") 1703), (.str (Str.ofString "es") 1704), (.str (Str.ofString "ades") 1705), (.str (Str.ofString "andes") 1706), (.str (Str.ofString "ens") 1707), (.str (Str.ofString "arens") 1708), (.str (Str.ofString "hetens") 1709), (.str (Str.ofString "erns") 1710), (.str (Str.ofString "s") 1711), (.str (Str.ofString "et") 1712)] 0), #[]⟩
noncomputable def o533 (P : Params) : Obj := ⟨(.type "list"), none, (.seq #[(.str (Str.ofString "dd") 1714), (.str (Str.ofString "gd") 1715), (.str (Str.ofString "nn") 1716), (.str (Str.ofString "dt") 1717), (.str (Str.ofString "gt") 1718), (.str (Str.ofString "kt") 1719), (.str (Str.ofString "tt") 1720)] 0), #[]⟩
noncomputable def o534 (P : Params) : Obj := ⟨(.type "list"), none, (.seq #[(.str (Str.ofString "lig") 1722), (.str (Str.ofString "ig") 1723), (.str (Str.ofString "els") 1724), (.str (Str.ofString "öst") 1725), (.str (Str.ofString "fullt") 1726)] 0), #[]⟩
noncomputable def o535 (P : Params) : Obj := ⟨(.type "list"), none, (.seq #[(.str (Str.ofString "ets") 1728), (.str (Str.ofString "a") 1729), (.str (Str.ofString "s") 1730), (.str (Str.ofString "et") 1731), (.str (Str.ofString "k") 1732), (.str (Str.ofString "lig") 1733), (.str (Str.ofString "t") 1734), (.str (Str.ofString "en") 1735), (.str (Str.ofString "å") 1736), (.str (Str.ofString "els") 1737), (.str (Str.ofString "r") 1738), (.str (Str.ofString "gt") 1739), (.str (Str.ofString "i") 1740), (.str (Str.ofString "öst") 1741), (.str (Str.ofString "e") 1742), (.str (Str.ofString "n") 1743), (.str (Str.ofString "fullt") 1744), (.str (Str.ofString "h") 1745), (.str (Str.ofString "ö") 1746), (.str (Str.ofString "d") 1747)] 0), #[]⟩
noncomputable def o536 (P : Params) : Obj := ⟨(.type "list"), none, (.seq #[(.str (Str.ofString "b") 1749), (.str (Str.ofString "c") 1750), (.str (Str.ofString "f") 1751), (.str (Str.ofString "g") 1752), (.str (Str.ofString "j") 1753), (.str (Str.ofString "l") 1754), (.str (Str.ofString "m") 1755), (.str (Str.ofString "o") 1756), (.str (Str.ofString "p") 1757), (.str (Str.ofString "q") 1758), (.str (Str.ofString "u") 1759), (.str (Str.ofString "v") 1760), (.str (Str.ofString "w") 1761), (.str (Str.ofString "x") 1762), (.str (Str.ofString "y") 1763), (.str (Str.ofString "z") 1764), (.str (Str.ofString "ä") 1765)] 0), #[]⟩
noncomputable def o537 (P : Params) : Obj := ⟨(.type "list"), none, (.seq #[(.str (Str.ofString "é") 1767), (.str (Str.ofString "Å") 1768), (.str (Str.ofString "E") 1769), (.str (Str.ofString "æ") 1770), (.str (Str.ofString "ø") 1771), (.str (Str.ofString "ü") 1772), (.str (Str.ofString "-") 1773), (.str (Str.ofString "7") 1774)] 0), #[]⟩
noncomputable def o538 (P : Params) : Obj := ⟨(.type "list"), none, (.seq #[(.str (Str.ofString "hus") 1776), (.str (Str.ofString "land") 1777), (.str (Str.ofString "flick") 1778), (.str (Str.ofString "arbet") 1779), (.str (Str.ofString "rätt") 1780), (.str (Str.ofString "nyhet") 1781)] 0), #[]⟩
noncomputable def o539 (P : Params) : Obj := ⟨(.type "tuple"), none, (.seq #[] 0), #[]⟩
noncomputable def o540 (P : Params) : Obj := ⟨.none, none, (.fields #[]), #[]⟩
noncomputable def o541 (P : Params) : Obj := ⟨(.type "tuple"), none, (.seq #[(.str (Str.ofString "word") 1786), (.str (Str.ofString "seen") 1787), (.str (Str.ofString "place") 1788)] 0), #[]⟩
noncomputable def o542 (P : Params) : Obj := ⟨(.type "tuple"), none, (.seq #[] 0), #[]⟩
noncomputable def o543 (P : Params) : Obj := ⟨.none, none, (fnD (top 20) (Str.ofString "_law_region") 0 .none .none), #[]⟩
noncomputable def o544 (P : Params) : Obj := ⟨(.type "code"), none, (.fields #[(.str (Str.ofString "_law_region") 1783), (.str (Str.ofString "_law_region") 1784), (.str (Str.ofString "/claim/cut.py") 1785), (.int 333 0), (.int 1 0), (.int 0 0), (.int 0 0), (.int 3 0), (.ref 539), (.bool true), (.int 181 0), (.ref 540), .none, (.ref 541), (.ref 542), (.ref 543), (.int 1789 0), (.int 333 0), (.str (Str.ofString "/claim/cut.py") 1790)]), #[]⟩
noncomputable def o545 (P : Params) : Obj := ⟨(.type "function"), none, (fnD (top 20) (Str.ofString "_law_region") 3 (.str (Str.ofString "law_ip0002_01") 1633) (.ref 544)), #[]⟩
noncomputable def o546 (P : Params) : Obj := ⟨(.type "tuple"), none, (.seq #[] 0), #[]⟩
noncomputable def o547 (P : Params) : Obj := ⟨.none, none, (.fields #[]), #[]⟩
noncomputable def o548 (P : Params) : Obj := ⟨(.type "tuple"), none, (.seq #[(.str (Str.ofString "text") 1795), (.str (Str.ofString "ends") 1796), (.str (Str.ofString "size") 1797), (.str (Str.ofString "end") 1798)] 0), #[]⟩
noncomputable def o549 (P : Params) : Obj := ⟨(.type "tuple"), none, (.seq #[] 0), #[]⟩
noncomputable def o550 (P : Params) : Obj := ⟨.none, none, (fnD (top 21) (Str.ofString "_law_longest") 0 .none .none), #[]⟩
noncomputable def o551 (P : Params) : Obj := ⟨(.type "code"), none, (.fields #[(.str (Str.ofString "_law_longest") 1792), (.str (Str.ofString "_law_longest") 1793), (.str (Str.ofString "/claim/cut.py") 1794), (.int 343 0), (.int 2 0), (.int 0 0), (.int 0 0), (.int 3 0), (.ref 546), (.bool true), (.int 181 0), (.ref 547), .none, (.ref 548), (.ref 549), (.ref 550), (.int 1799 0), (.int 343 0), (.str (Str.ofString "/claim/cut.py") 1800)]), #[]⟩
noncomputable def o552 (P : Params) : Obj := ⟨(.type "function"), none, (fnD (top 21) (Str.ofString "_law_longest") 3 (.str (Str.ofString "law_ip0002_01") 1633) (.ref 551)), #[]⟩
noncomputable def o553 (P : Params) : Obj := ⟨(.type "tuple"), none, (.seq #[] 0), #[]⟩
noncomputable def o554 (P : Params) : Obj := ⟨.none, none, (.fields #[]), #[]⟩
noncomputable def o555 (P : Params) : Obj := ⟨(.type "tuple"), none, (.seq #[(.str (Str.ofString "stem") 1805), (.str (Str.ofString "size") 1806)] 0), #[]⟩
noncomputable def o556 (P : Params) : Obj := ⟨(.type "tuple"), none, (.seq #[] 0), #[]⟩
noncomputable def o557 (P : Params) : Obj := ⟨.none, none, (fnD (top 22) (Str.ofString "_law_et_may_go") 0 .none .none), #[]⟩
noncomputable def o558 (P : Params) : Obj := ⟨(.type "code"), none, (.fields #[(.str (Str.ofString "_law_et_may_go") 1802), (.str (Str.ofString "_law_et_may_go") 1803), (.str (Str.ofString "/claim/cut.py") 1804), (.int 349 0), (.int 1 0), (.int 0 0), (.int 0 0), (.int 3 0), (.ref 553), (.bool true), (.int 181 0), (.ref 554), .none, (.ref 555), (.ref 556), (.ref 557), (.int 1807 0), (.int 349 0), (.str (Str.ofString "/claim/cut.py") 1808)]), #[]⟩
noncomputable def o559 (P : Params) : Obj := ⟨(.type "function"), none, (fnD (top 22) (Str.ofString "_law_et_may_go") 3 (.str (Str.ofString "law_ip0002_01") 1633) (.ref 558)), #[]⟩
noncomputable def o560 (P : Params) : Obj := ⟨(.type "tuple"), none, (.seq #[] 0), #[]⟩
noncomputable def o561 (P : Params) : Obj := ⟨.none, none, (.fields #[]), #[]⟩
noncomputable def o562 (P : Params) : Obj := ⟨(.type "tuple"), none, (.seq #[(.str (Str.ofString "word") 1813), (.str (Str.ofString "first") 1814), (.str (Str.ofString "end") 1815), (.str (Str.ofString "stem") 1816), (.str (Str.ofString "root") 1817)] 0), #[]⟩
noncomputable def o563 (P : Params) : Obj := ⟨(.type "tuple"), none, (.seq #[] 0), #[]⟩
noncomputable def o564 (P : Params) : Obj := ⟨.none, none, (fnD (top 23) (Str.ofString "_law_stem") 0 .none .none), #[]⟩
noncomputable def o565 (P : Params) : Obj := ⟨(.type "code"), none, (.fields #[(.str (Str.ofString "_law_stem") 1810), (.str (Str.ofString "_law_stem") 1811), (.str (Str.ofString "/claim/cut.py") 1812), (.int 354 0), (.int 1 0), (.int 0 0), (.int 0 0), (.int 3 0), (.ref 560), (.bool true), (.int 181 0), (.ref 561), .none, (.ref 562), (.ref 563), (.ref 564), (.int 1818 0), (.int 354 0), (.str (Str.ofString "/claim/cut.py") 1819)]), #[]⟩
noncomputable def o566 (P : Params) : Obj := ⟨(.type "function"), none, (fnD (top 23) (Str.ofString "_law_stem") 3 (.str (Str.ofString "law_ip0002_01") 1633) (.ref 565)), #[]⟩
noncomputable def o567 (P : Params) : Obj := ⟨(.type "tuple"), none, (.seq #[] 0), #[]⟩
noncomputable def o568 (P : Params) : Obj := ⟨.none, none, (.fields #[]), #[]⟩
noncomputable def o569 (P : Params) : Obj := ⟨.none, none, (fnD (top 24) (Str.ofString "law") 0 .none .none), #[]⟩
noncomputable def o570 (P : Params) : Obj := ⟨(.type "code"), none, (.fields #[(.str (Str.ofString "law") 1821), (.str (Str.ofString "law") 1822), (.str (Str.ofString "/claim/cut.py") 1823), (.int 381 0), (.int 1 0), (.int 0 0), (.int 0 0), (.int 3 0), (.ref 567), (.bool true), (.int 181 0), (.ref 568), .none, .none, .none, (.ref 569), (.int 1824 0), (.int 381 0), (.str (Str.ofString "/claim/cut.py") 1825)]), #[]⟩
noncomputable def o571 (P : Params) : Obj := ⟨(.type "function"), none, (fnD (top 24) (Str.ofString "law") 3 (.str (Str.ofString "law_ip0002_01") 1633) (.ref 570)), #[]⟩
noncomputable def Tf (P : Params) (d1 d2 d3 : Data) : BT := (.node (boot_o_0 P) (.node (boot_o_1 P) (.node (o3_3 P) (.node (boot_o_7 P) (.node (o15 P) (.node (o31 P) (.node (o63 P) (.node (o127 P) (.node (o255 P) (lf (o511 P)) .nil) (lf (o383 P))) (.node (o191 P) (lf (o319 P)) (lf (o447 P)))) (.node (o95 P) (.node (o159 P) (.node (o287 P) (lf (o543 P)) .nil) (lf (o415 P))) (.node (o223 P) (lf (o351 P)) (lf (o479 P))))) (.node (o47 P) (.node (o79 P) (.node (o143 P) (.node (o271 P) (lf (o527 P)) .nil) (lf (o399 P))) (.node (o207 P) (lf (o335 P)) (lf (o463 P)))) (.node (o111 P) (.node (o175 P) (.node (o303 P) (lf (o559 P)) .nil) (lf (o431 P))) (.node (o239 P) (lf (o367 P)) (lf (o495 P)))))) (.node (o23 P) (.node (o39 P) (.node (o71 P) (.node (o135 P) (.node (o263 P) (lf (o519 P)) .nil) (lf (o391 P))) (.node (o199 P) (lf (o327 P)) (lf (o455 P)))) (.node (o103 P) (.node (o167 P) (.node (o295 P) (lf (o551 P)) .nil) (lf (o423 P))) (.node (so d2) (lf (o359 P)) (lf (o487 P))))) (.node (o55 P) (.node (o87 P) (.node (o151 P) (.node (o279 P) (lf (o535 P)) .nil) (lf (o407 P))) (.node (o215 P) (lf (o343 P)) (lf (o471 P)))) (.node (o119 P) (.node (o183 P) (.node (o311 P) (lf (o567 P)) .nil) (lf (o439 P))) (.node (o247 P) (lf (o375 P)) (lf (o503 P))))))) (.node (o11 P) (.node (o19 P) (.node (o35 P) (.node (o67 P) (.node (o131 P) (.node (o259 P) (lf (o515 P)) .nil) (lf (o387 P))) (.node (o195 P) (lf (o323 P)) (lf (o451 P)))) (.node (o99 P) (.node (o163 P) (.node (o291 P) (lf (o547 P)) .nil) (lf (o419 P))) (.node (o227_1 P) (lf (o355 P)) (lf (o483 P))))) (.node (o51 P) (.node (o83 P) (.node (o147 P) (.node (o275 P) (lf (o531 P)) .nil) (lf (o403 P))) (.node (o211 P) (lf (o339 P)) (lf (o467 P)))) (.node (o115 P) (.node (o179 P) (.node (o307 P) (lf (o563 P)) .nil) (lf (o435 P))) (.node (o243 P) (lf (o371 P)) (lf (o499 P)))))) (.node (o27 P) (.node (o43 P) (.node (o75 P) (.node (o139 P) (.node (o267 P) (lf (o523 P)) .nil) (lf (o395 P))) (.node (o203 P) (lf (o331 P)) (lf (o459 P)))) (.node (o107 P) (.node (o171 P) (.node (o299 P) (lf (o555 P)) .nil) (lf (o427 P))) (.node (o235 P) (lf (o363 P)) (lf (o491 P))))) (.node (o59 P) (.node (o91 P) (.node (o155 P) (.node (o283 P) (lf (o539 P)) .nil) (lf (o411 P))) (.node (o219 P) (lf (o347 P)) (lf (o475 P)))) (.node (o123 P) (.node (o187 P) (.node (o315 P) (lf (o571 P)) .nil) (lf (o443 P))) (.node (o251 P) (lf (o379 P)) (lf (o507 P)))))))) (.node (boot_o_5 P) (.node (boot_o_9 P) (.node (o17 P) (.node (o33 P) (.node (o65 P) (.node (o129 P) (.node (o257 P) (lf (o513 P)) .nil) (lf (o385 P))) (.node (o193 P) (lf (o321 P)) (lf (o449 P)))) (.node (o97 P) (.node (o161 P) (.node (o289 P) (lf (o545 P)) .nil) (lf (o417 P))) (.node (o225_8 P) (lf (o353 P)) (lf (o481 P))))) (.node (o49 P) (.node (o81 P) (.node (o145 P) (.node (o273 P) (lf (o529 P)) .nil) (lf (o401 P))) (.node (o209 P) (lf (o337 P)) (lf (o465 P)))) (.node (o113 P) (.node (o177 P) (.node (o305 P) (lf (o561 P)) .nil) (lf (o433 P))) (.node (o241 P) (lf (o369 P)) (lf (o497 P)))))) (.node (o25 P) (.node (o41 P) (.node (o73 P) (.node (o137 P) (.node (o265 P) (lf (o521 P)) .nil) (lf (o393 P))) (.node (o201 P) (lf (o329 P)) (lf (o457 P)))) (.node (o105 P) (.node (o169 P) (.node (o297 P) (lf (o553 P)) .nil) (lf (o425 P))) (.node (o233 P) (lf (o361 P)) (lf (o489 P))))) (.node (o57 P) (.node (o89 P) (.node (o153 P) (.node (o281 P) (lf (o537 P)) .nil) (lf (o409 P))) (.node (o217 P) (lf (o345 P)) (lf (o473 P)))) (.node (o121 P) (.node (o185 P) (.node (o313 P) (lf (o569 P)) .nil) (lf (o441 P))) (.node (o249 P) (lf (o377 P)) (lf (o505 P))))))) (.node (o13 P) (.node (o21 P) (.node (o37 P) (.node (o69 P) (.node (o133 P) (.node (o261 P) (lf (o517 P)) .nil) (lf (o389 P))) (.node (o197_1 P) (lf (o325 P)) (lf (o453 P)))) (.node (o101 P) (.node (o165 P) (.node (o293 P) (lf (o549 P)) .nil) (lf (o421 P))) (.node (o229 P) (lf (o357 P)) (lf (o485 P))))) (.node (o53 P) (.node (o85 P) (.node (o149 P) (.node (o277 P) (lf (o533 P)) .nil) (lf (o405 P))) (.node (o213 P) (lf (o341 P)) (lf (o469 P)))) (.node (o117 P) (.node (o181 P) (.node (o309 P) (lf (o565 P)) .nil) (lf (o437 P))) (.node (o245 P) (lf (o373 P)) (lf (o501 P)))))) (.node (o29 P) (.node (o45 P) (.node (o77 P) (.node (o141 P) (.node (o269 P) (lf (o525 P)) .nil) (lf (o397 P))) (.node (o205 P) (lf (o333 P)) (lf (o461 P)))) (.node (o109 P) (.node (o173 P) (.node (o301 P) (lf (o557 P)) .nil) (lf (o429 P))) (.node (o237 P) (lf (o365 P)) (lf (o493 P))))) (.node (o61 P) (.node (o93 P) (.node (o157 P) (.node (o285 P) (lf (o541 P)) .nil) (lf (o413 P))) (.node (o221 P) (lf (o349 P)) (lf (o477 P)))) (.node (o125 P) (.node (o189 P) (lf (o317 P)) (lf (o445 P))) (.node (o253 P) (lf (o381 P)) (lf (o509 P))))))))) (.node (o2_1 P) (.node (boot_o_4 P) (.node (boot_o_8 P) (.node (o16 P) (.node (o32 P) (.node (o64 P) (.node (o128 P) (.node (o256 P) (lf (o512 P)) .nil) (lf (o384 P))) (.node (o192 P) (lf (o320 P)) (lf (o448 P)))) (.node (o96 P) (.node (o160 P) (.node (o288 P) (lf (o544 P)) .nil) (lf (o416 P))) (.node (o224 P) (lf (o352 P)) (lf (o480 P))))) (.node (o48 P) (.node (o80 P) (.node (o144 P) (.node (o272 P) (lf (o528 P)) .nil) (lf (o400 P))) (.node (o208 P) (lf (o336 P)) (lf (o464 P)))) (.node (o112 P) (.node (o176 P) (.node (o304 P) (lf (o560 P)) .nil) (lf (o432 P))) (.node (o240 P) (lf (o368 P)) (lf (o496 P)))))) (.node (o24 P) (.node (o40 P) (.node (o72 P) (.node (o136 P) (.node (o264 P) (lf (o520 P)) .nil) (lf (o392 P))) (.node (o200 P) (lf (o328 P)) (lf (o456 P)))) (.node (o104 P) (.node (o168 P) (.node (o296 P) (lf (o552 P)) .nil) (lf (o424 P))) (.node (so d3) (lf (o360 P)) (lf (o488 P))))) (.node (o56 P) (.node (o88 P) (.node (o152 P) (.node (o280 P) (lf (o536 P)) .nil) (lf (o408 P))) (.node (o216 P) (lf (o344 P)) (lf (o472 P)))) (.node (o120 P) (.node (o184 P) (.node (o312 P) (lf (o568 P)) .nil) (lf (o440 P))) (.node (o248 P) (lf (o376 P)) (lf (o504 P))))))) (.node (o12_3 P) (.node (o20 P) (.node (o36 P) (.node (o68 P) (.node (o132 P) (.node (o260 P) (lf (o516 P)) .nil) (lf (o388 P))) (.node (o196 P) (lf (o324 P)) (lf (o452 P)))) (.node (o100 P) (.node (o164 P) (.node (o292 P) (lf (o548 P)) .nil) (lf (o420 P))) (.node (o228 P) (lf (o356 P)) (lf (o484 P))))) (.node (o52 P) (.node (o84 P) (.node (o148 P) (.node (o276 P) (lf (o532 P)) .nil) (lf (o404 P))) (.node (o212 P) (lf (o340 P)) (lf (o468 P)))) (.node (o116 P) (.node (o180 P) (.node (o308 P) (lf (o564 P)) .nil) (lf (o436 P))) (.node (o244 P) (lf (o372 P)) (lf (o500 P)))))) (.node (o28 P) (.node (o44 P) (.node (o76 P) (.node (o140 P) (.node (o268 P) (lf (o524 P)) .nil) (lf (o396 P))) (.node (o204 P) (lf (o332 P)) (lf (o460 P)))) (.node (o108 P) (.node (o172 P) (.node (o300 P) (lf (o556 P)) .nil) (lf (o428 P))) (.node (o236 P) (lf (o364 P)) (lf (o492 P))))) (.node (o60 P) (.node (o92 P) (.node (o156 P) (.node (o284 P) (lf (o540 P)) .nil) (lf (o412 P))) (.node (o220 P) (lf (o348 P)) (lf (o476 P)))) (.node (o124 P) (.node (o188 P) (lf (o316 P)) (lf (o444 P))) (.node (o252 P) (lf (o380 P)) (lf (o508 P)))))))) (.node (boot_o_6 P) (.node (boot_o_10 P) (.node (o18 P) (.node (o34 P) (.node (o66 P) (.node (o130 P) (.node (o258 P) (lf (o514 P)) .nil) (lf (o386 P))) (.node (o194 P) (lf (o322 P)) (lf (o450 P)))) (.node (o98 P) (.node (o162 P) (.node (o290 P) (lf (o546 P)) .nil) (lf (o418 P))) (.node (o226 P) (lf (o354 P)) (lf (o482 P))))) (.node (o50 P) (.node (o82 P) (.node (o146 P) (.node (o274 P) (lf (o530 P)) .nil) (lf (o402 P))) (.node (o210 P) (lf (o338 P)) (lf (o466 P)))) (.node (o114 P) (.node (o178 P) (.node (o306 P) (lf (o562 P)) .nil) (lf (o434 P))) (.node (o242 P) (lf (o370 P)) (lf (o498 P)))))) (.node (o26 P) (.node (o42 P) (.node (o74 P) (.node (o138 P) (.node (o266 P) (lf (o522 P)) .nil) (lf (o394 P))) (.node (o202 P) (lf (o330 P)) (lf (o458 P)))) (.node (o106 P) (.node (o170 P) (.node (o298 P) (lf (o554 P)) .nil) (lf (o426 P))) (.node (o234 P) (lf (o362 P)) (lf (o490 P))))) (.node (o58 P) (.node (o90 P) (.node (o154 P) (.node (o282 P) (lf (o538 P)) .nil) (lf (o410 P))) (.node (o218 P) (lf (o346 P)) (lf (o474 P)))) (.node (o122 P) (.node (o186 P) (.node (o314 P) (lf (o570 P)) .nil) (lf (o442 P))) (.node (o250 P) (lf (o378 P)) (lf (o506 P))))))) (.node (o14 P) (.node (o22 P) (.node (o38 P) (.node (o70 P) (.node (o134 P) (.node (o262 P) (lf (o518 P)) .nil) (lf (o390 P))) (.node (o198 P) (lf (o326 P)) (lf (o454 P)))) (.node (o102 P) (.node (o166 P) (.node (o294 P) (lf (o550 P)) .nil) (lf (o422 P))) (.node (so d1) (lf (o358 P)) (lf (o486 P))))) (.node (o54 P) (.node (o86 P) (.node (o150 P) (.node (o278 P) (lf (o534 P)) .nil) (lf (o406 P))) (.node (o214 P) (lf (o342 P)) (lf (o470 P)))) (.node (o118 P) (.node (o182 P) (.node (o310 P) (lf (o566 P)) .nil) (lf (o438 P))) (.node (o246 P) (lf (o374 P)) (lf (o502 P)))))) (.node (o30 P) (.node (o46 P) (.node (o78 P) (.node (o142 P) (.node (o270 P) (lf (o526 P)) .nil) (lf (o398 P))) (.node (o206 P) (lf (o334 P)) (lf (o462 P)))) (.node (o110 P) (.node (o174 P) (.node (o302 P) (lf (o558 P)) .nil) (lf (o430 P))) (.node (o238 P) (lf (o366 P)) (lf (o494 P))))) (.node (o62 P) (.node (o94 P) (.node (o158 P) (.node (o286 P) (lf (o542 P)) .nil) (lf (o414 P))) (.node (o222 P) (lf (o350 P)) (lf (o478 P)))) (.node (o126 P) (.node (o190 P) (lf (o318 P)) (lf (o446 P))) (.node (o254 P) (lf (o382 P)) (lf (o510 P))))))))))
noncomputable def sf (P : Params) (d1 d2 d3 : Data) (T : Nat) (os : OsState) : SharedT := ⟨Tf P d1 d2 d3, 572, {}, #[], {}, T, os⟩
end Mine
-- HeadD
namespace Mine
open PySem PySem.W PySem.Calls PyProof.Rows

abbrev q0 : Pos := ⟨0, 0, 0, 0⟩
abbrev tops : List Stmt := behindTheImports pw
noncomputable def envT : Env := { scope := pw.main.scope, locals := mainNs, globals := mainNs, cells := [], code := .ref 13, frame := some 14 }
abbrev cT : Code := .body tops envT
noncomputable def scopeOf (st : Stmt) : Scope := match st with | .ClassDef _ _ _ _ _ _ sc _ _ _ _ => sc | _ => default
abbrev cbody : List Stmt := inner (top 6)
noncomputable def envC : Env := { scope := scopeOf (top 6), locals := 225, globals := 3, cells := [], qual := Str.ofString "SwedishStemmer" ++ Str.ofString ".", func := none, code := .ref 228, frame := some 229, builtins := 0 }
abbrev cC : Code := .body cbody envC
abbrev annT : Option Value := some (.ref 6)
abbrev pos5 : Pos := ⟨167, 0, 167, 8⟩
abbrev pos6 : Pos := ⟨168, 0, 315, 116⟩
abbrev l1 : List Value := [.ref 197, .ref 223, .ref 223, .ref 225, .ref 229]
noncomputable def th0 (w : World) (os : OsState) : Thread := match segGoT treeTable pw w 11 annT 1 64 (s6 w.params 461 os) (pieceOf (top 6) envT cT pos5 [topFrame q0]) with
  | some (_, t) => t
  | none => ⟨.unsupported "", cT, pos5, []⟩
noncomputable def k1 (w : World) (os : OsState) : Result → Sem PySem.Fin := match (th0 w os).stack with
  | .ret k _ _ _ _ _ _ :: _ => k
  | _ => fun _ => .unsupported ""

theorem chA (w : World) (os : OsState) : segGoT treeTable pw w 11 annT 1 64 (s6 w.params 461 os) (pieceOf (top 6) envT cT pos5 [topFrame q0]) =
    some (sC0 w.params 473 os, ⟨denote treeTable cC, cC, pos6, stk (k1 w os) l1 cT pos6 q0⟩) := by kernel_rfl
theorem chB : denote treeTable cC = (execs cbody envC).wrap doneF (leaveH envC) id id := by
  have h : blockStart cbody envC = .pure () := by kernel_rfl
  rw [body_wrap, h]
  rfl

section
variable (w : World) (os : OsState) (d1 d2 d3 : Data) (k : Result → Sem PySem.Fin) (l : List Value) (K : Flow → Sem PySem.Fin) (H : Value → Sem PySem.Fin) (gd : Bool → Bool) (lv : List Value → List Value)
theorem ch3 : segGoT treeTable pw w 11 annT 1 205 (sC3 w.params d1 d2 d3 546 os) ⟨(execs ((cbody.drop 3).take 7) envC).wrap K H gd lv, cC, ⟨171, 4, 171, 16⟩, stk k l cT pos6 q0⟩ =
    some (sC10 w.params d1 d2 d3 605 os, ⟨K .next, cC, ⟨295, 4, 311, 19⟩, stk k l cT pos6 q0⟩) := by kernel_rfl
theorem ch10 : segGoT treeTable pw w 11 annT 1 3686 (sC10 w.params d1 d2 d3 605 os) ⟨(execs ((cbody.drop 10).take 1) envC).wrap K H gd lv, cC, ⟨295, 4, 311, 19⟩, stk k l cT pos6 q0⟩ =
    some (sC11 w.params d1 d2 d3 921 os, ⟨K .next, cC, ⟨312, 4, 312, 7⟩, stk k l cT pos6 q0⟩) := by kernel_rfl
theorem ch11 : segGoT treeTable pw w 11 annT 1 6341 (sC11 w.params d1 d2 d3 921 os) ⟨(execs ((cbody.drop 11).take 1) envC).wrap K H gd lv, cC, ⟨312, 4, 312, 7⟩, stk k l cT pos6 q0⟩ =
    some (sC12 w.params d1 d2 d3 1428 os, ⟨K .next, cC, ⟨313, 4, 313, 7⟩, stk k l cT pos6 q0⟩) := by kernel_rfl
theorem ch12 : segGoT treeTable pw w 11 annT 1 2092 (sC12 w.params d1 d2 d3 1428 os) ⟨(execs (cbody.drop 12) envC).wrap K H gd lv, cC, ⟨313, 4, 313, 7⟩, stk k l cT pos6 q0⟩ =
    some (sC14 w.params d1 d2 d3 1604 os, ⟨K .next, cC, ⟨315, 4, 315, 7⟩, stk k l cT pos6 q0⟩) := by kernel_rfl
end
end Mine
-- HeadE
namespace Mine
open PySem PySem.W PySem.Calls PyProof.Rows
theorem chZ (w : World) (os : OsState) (e1 e2 e3 : Array (Int × Value)) (n1 n2 n3 : Nat) (t1 t2 t3 : SetTable) : segRunT treeTable pw w 11 annT 1 167 (sC14 w.params (.set e1 n1 t1) (.set e2 n2 t2) (.set e3 n3 t3) 1604 os) ⟨doneF .next, cC, ⟨315, 4, 315, 7⟩, stk (k1 w os) l1 cT pos6 q0⟩ =
    some (.next, s7 w.params (.set e1 n1 t1) (.set e2 n2 t2) (.set e3 n3 t3) 1613 os, cT, pos6) := by
  kernel_rfl
end Mine
-- HeadF
namespace Mine
open PySem PySem.W PySem.Calls PyProof.Rows

theorem Ex.ofT {α : Type} {w : World} {B : List Frame} {c : Code} {n : Nat} {m : Sem α} {p p' : Pos} {S S' : SharedT} {a : α} {Q : α → Pos → Shared → Prop}
    (h : ∀ (K : α → Sem PySem.Fin) (H : Value → Sem PySem.Fin) (gd : Bool → Bool) (lv : List Value → List Value), segGoT treeTable pw w 11 (some (.ref 6)) 1 n S ⟨m.wrap K H gd lv, c, p, B⟩ = some (S', ⟨K a, c, p', B⟩))
    (hq : Q a p' S'.abs) : Ex w B c n m p S.abs Q := fun K H gd lv => ⟨n, a, p', S'.abs, Nat.le_refl n, segGo_of (h K H gd lv), hq⟩

noncomputable def tgOf (st : Stmt) : List PySem.Expr := match st with | .Assign t _ _ => t | _ => []
noncomputable def elOf (st : Stmt) : List PySem.Expr := match st with | .Assign _ (.Set e _ _) _ => e | _ => []
noncomputable def psOf (st : Stmt) : Pos := match st with | .Assign _ (.Set _ _ p) _ => p | _ => q0
noncomputable def apOf (st : Stmt) : Pos := match st with | .Assign _ _ p => p | _ => q0
noncomputable def setStmt (j : Nat) : Stmt := .Assign (tgOf (meth 6 j)) (.Set (elOf (meth 6 j)) 0 (psOf (meth 6 j))) (apOf (meth 6 j))

section
variable (w : World) (os : OsState)  (k : Result → Sem PySem.Fin) (l : List Value)
noncomputable def xs0 : List (Nat × Tok) := [(97, 473), (101, 474), (105, 475), (111, 476), (117, 477), (121, 478), (228, 479), (229, 480), (246, 481)]
theorem setq0 : meth 6 0 = setStmt 0 := by kernel_rfl
theorem setg0 (es : Array (Int × Value)) (n : Nat) (t : SetTable) : (absHeap (TC1a w.params (.set es n t)) 231 {}).get? 230 = some ⟨.type "set", none, .set es n t, #[]⟩ := by
  have g : (TC1a w.params (.set es n t)).get 230 = some (so (.set es n t)) := by kernel_rfl
  rw [abs_get (by omega) g]; rfl
theorem setu0 (es : Array (Int × Value)) (n : Nat) (t : SetTable) (es' : Array (Int × Value)) (t' : SetTable) : (absHeap (TC1a w.params (.set es n t)) 231 {}).update 230 (Obj.putSet es' t') = absHeap (TC1a w.params (.set es' (n + 1) t')) 231 {} := by
  have g : (TC1a w.params (.set es n t)).get 230 = some (so (.set es n t)) := by kernel_rfl
  have e : (TC1a w.params (.set es n t)).set 230 (Obj.putSet es' t') = TC1a w.params (.set es' (n + 1) t') := by kernel_rfl
  rw [← absHeap_set g, e]
theorem setrun0 : Ex w (stk k l cT pos6 q0) cC 1000 (exec (meth 6 0) envC) pos6 (sC0 w.params 473 os).abs
    (fun f p' s' => f = .next ∧ p' = ⟨169, 4, 169, 7⟩ ∧ s' = (sC1 w.params (addAll w.params xs0 #[] 0 (.fresh 0 0 (!w.params.followText "set-order"))) 492 os).abs) := by
  rw [setq0]
  refine Ex.mono (set_stmt (H := fun d => absHeap (TC1a w.params d) 231 {}) (gs := #[]) (dr := {}) (os := os) (S0 := (sC0 w.params 473 os).abs) (T0 := 473) (T1 := 482) (T2 := 491) (N := 18) (M := 8)
    (SC := fun d => (sC1 w.params d 492 os).abs) (p2 := ⟨169, 4, 169, 7⟩) xs0 (a := 230) rfl (setg0 w) (setu0 w) (by kernel_rfl) (by decide +kernel) (by kernel_rfl) (by kernel_rfl) ?hm ?hn ?ha (by decide +kernel) (by decide) (by rfl) ?hs) ?hb (fun _ _ _ h => h)
  case hm =>
    exact Ex.ofT (S := sC0 w.params 473 os) (S' := sC0 w.params 473 os) (a := true) (p' := psOf (meth 6 0)) (fun K H gd lv => by kernel_rfl) ⟨rfl, rfl⟩
  case hn =>
    exact Ex.ofT (S := sC0 w.params 473 os) (S' := sC1a w.params (.set #[] 0 (.fresh 0 0 (!w.params.followText "set-order"))) 473 os) (a := .ref 230) (p' := psOf (meth 6 0)) (fun K H gd lv => by kernel_rfl) ⟨rfl, rfl, rfl⟩
  case ha =>
    intro d
    exact Ex.ofT (S := sC1a w.params d 473 os) (S' := sC1a w.params d 482 os) (a := xs0.map valOf) (p' := psOf (meth 6 0)) (fun K H gd lv => by kernel_rfl) ⟨rfl, rfl, rfl⟩
  case hs =>
    intro d
    exact Ex.ofT (S := sC1a w.params d 491 os) (S' := sC1 w.params d 492 os) (a := .next) (p' := ⟨169, 4, 169, 7⟩) (fun K H gd lv => by kernel_rfl) ⟨rfl, rfl, rfl⟩
  case hb => decide +kernel
end

section
variable (w : World) (os : OsState) (d1 : Data) (k : Result → Sem PySem.Fin) (l : List Value)
noncomputable def xs1 : List (Nat × Tok) := [(98, 492), (99, 493), (100, 494), (102, 495), (103, 496), (104, 497), (106, 498), (107, 499), (108, 500), (109, 501), (110, 502), (111, 503), (112, 504), (114, 505), (116, 506), (118, 507), (121, 508)]
theorem setq1 : meth 6 1 = setStmt 1 := by kernel_rfl
theorem setg1 (es : Array (Int × Value)) (n : Nat) (t : SetTable) : (absHeap (TC2a w.params d1 (.set es n t)) 232 {}).get? 231 = some ⟨.type "set", none, .set es n t, #[]⟩ := by
  have g : (TC2a w.params d1 (.set es n t)).get 231 = some (so (.set es n t)) := by kernel_rfl
  rw [abs_get (by omega) g]; rfl
theorem setu1 (es : Array (Int × Value)) (n : Nat) (t : SetTable) (es' : Array (Int × Value)) (t' : SetTable) : (absHeap (TC2a w.params d1 (.set es n t)) 232 {}).update 231 (Obj.putSet es' t') = absHeap (TC2a w.params d1 (.set es' (n + 1) t')) 232 {} := by
  have g : (TC2a w.params d1 (.set es n t)).get 231 = some (so (.set es n t)) := by kernel_rfl
  have e : (TC2a w.params d1 (.set es n t)).set 231 (Obj.putSet es' t') = TC2a w.params d1 (.set es' (n + 1) t') := by kernel_rfl
  rw [← absHeap_set g, e]
theorem setrun1 : Ex w (stk k l cT pos6 q0) cC 1000 (exec (meth 6 1) envC) ⟨169, 4, 169, 7⟩ (sC1 w.params d1 492 os).abs
    (fun f p' s' => f = .next ∧ p' = ⟨170, 4, 170, 14⟩ ∧ s' = (sC2 w.params d1 (addAll w.params xs1 #[] 0 (.fresh 0 0 (!w.params.followText "set-order"))) 527 os).abs) := by
  rw [setq1]
  refine Ex.mono (set_stmt (H := fun d => absHeap (TC2a w.params d1 d) 232 {}) (gs := #[]) (dr := {}) (os := os) (S0 := (sC1 w.params d1 492 os).abs) (T0 := 492) (T1 := 509) (T2 := 526) (N := 34) (M := 8)
    (SC := fun d => (sC2 w.params d1 d 527 os).abs) (p2 := ⟨170, 4, 170, 14⟩) xs1 (a := 231) rfl (setg1 w d1) (setu1 w d1) (by kernel_rfl) (by decide +kernel) (by kernel_rfl) (by kernel_rfl) ?hm ?hn ?ha (by decide +kernel) (by decide) (by rfl) ?hs) ?hb (fun _ _ _ h => h)
  case hm =>
    exact Ex.ofT (S := sC1 w.params d1 492 os) (S' := sC1 w.params d1 492 os) (a := true) (p' := psOf (meth 6 1)) (fun K H gd lv => by kernel_rfl) ⟨rfl, rfl⟩
  case hn =>
    exact Ex.ofT (S := sC1 w.params d1 492 os) (S' := sC2a w.params d1 (.set #[] 0 (.fresh 0 0 (!w.params.followText "set-order"))) 492 os) (a := .ref 231) (p' := psOf (meth 6 1)) (fun K H gd lv => by kernel_rfl) ⟨rfl, rfl, rfl⟩
  case ha =>
    intro d
    exact Ex.ofT (S := sC2a w.params d1 d 492 os) (S' := sC2a w.params d1 d 509 os) (a := xs1.map valOf) (p' := psOf (meth 6 1)) (fun K H gd lv => by kernel_rfl) ⟨rfl, rfl, rfl⟩
  case hs =>
    intro d
    exact Ex.ofT (S := sC2a w.params d1 d 526 os) (S' := sC2 w.params d1 d 527 os) (a := .next) (p' := ⟨170, 4, 170, 14⟩) (fun K H gd lv => by kernel_rfl) ⟨rfl, rfl, rfl⟩
  case hb => decide +kernel
end

section
variable (w : World) (os : OsState) (d1 d2 : Data) (k : Result → Sem PySem.Fin) (l : List Value)
noncomputable def xs2 : List (Nat × Tok) := [(105, 527), (107, 528), (108, 529), (110, 530), (112, 531), (114, 532), (116, 533), (117, 534), (118, 535)]
theorem setq2 : meth 6 2 = setStmt 2 := by kernel_rfl
theorem setg2 (es : Array (Int × Value)) (n : Nat) (t : SetTable) : (absHeap (TC3a w.params d1 d2 (.set es n t)) 233 {}).get? 232 = some ⟨.type "set", none, .set es n t, #[]⟩ := by
  have g : (TC3a w.params d1 d2 (.set es n t)).get 232 = some (so (.set es n t)) := by kernel_rfl
  rw [abs_get (by omega) g]; rfl
theorem setu2 (es : Array (Int × Value)) (n : Nat) (t : SetTable) (es' : Array (Int × Value)) (t' : SetTable) : (absHeap (TC3a w.params d1 d2 (.set es n t)) 233 {}).update 232 (Obj.putSet es' t') = absHeap (TC3a w.params d1 d2 (.set es' (n + 1) t')) 233 {} := by
  have g : (TC3a w.params d1 d2 (.set es n t)).get 232 = some (so (.set es n t)) := by kernel_rfl
  have e : (TC3a w.params d1 d2 (.set es n t)).set 232 (Obj.putSet es' t') = TC3a w.params d1 d2 (.set es' (n + 1) t') := by kernel_rfl
  rw [← absHeap_set g, e]
theorem setrun2 : Ex w (stk k l cT pos6 q0) cC 1000 (exec (meth 6 2) envC) ⟨170, 4, 170, 14⟩ (sC2 w.params d1 d2 527 os).abs
    (fun f p' s' => f = .next ∧ p' = ⟨171, 4, 171, 16⟩ ∧ s' = (sC3 w.params d1 d2 (addAll w.params xs2 #[] 0 (.fresh 0 0 (!w.params.followText "set-order"))) 546 os).abs) := by
  rw [setq2]
  refine Ex.mono (set_stmt (H := fun d => absHeap (TC3a w.params d1 d2 d) 233 {}) (gs := #[]) (dr := {}) (os := os) (S0 := (sC2 w.params d1 d2 527 os).abs) (T0 := 527) (T1 := 536) (T2 := 545) (N := 18) (M := 8)
    (SC := fun d => (sC3 w.params d1 d2 d 546 os).abs) (p2 := ⟨171, 4, 171, 16⟩) xs2 (a := 232) rfl (setg2 w d1 d2) (setu2 w d1 d2) (by kernel_rfl) (by decide +kernel) (by kernel_rfl) (by kernel_rfl) ?hm ?hn ?ha (by decide +kernel) (by decide) (by rfl) ?hs) ?hb (fun _ _ _ h => h)
  case hm =>
    exact Ex.ofT (S := sC2 w.params d1 d2 527 os) (S' := sC2 w.params d1 d2 527 os) (a := true) (p' := psOf (meth 6 2)) (fun K H gd lv => by kernel_rfl) ⟨rfl, rfl⟩
  case hn =>
    exact Ex.ofT (S := sC2 w.params d1 d2 527 os) (S' := sC3a w.params d1 d2 (.set #[] 0 (.fresh 0 0 (!w.params.followText "set-order"))) 527 os) (a := .ref 232) (p' := psOf (meth 6 2)) (fun K H gd lv => by kernel_rfl) ⟨rfl, rfl, rfl⟩
  case ha =>
    intro d
    exact Ex.ofT (S := sC3a w.params d1 d2 d 527 os) (S' := sC3a w.params d1 d2 d 536 os) (a := xs2.map valOf) (p' := psOf (meth 6 2)) (fun K H gd lv => by kernel_rfl) ⟨rfl, rfl, rfl⟩
  case hs =>
    intro d
    exact Ex.ofT (S := sC3a w.params d1 d2 d 545 os) (S' := sC3 w.params d1 d2 d 546 os) (a := .next) (p' := ⟨171, 4, 171, 16⟩) (fun K H gd lv => by kernel_rfl) ⟨rfl, rfl, rfl⟩
  case hb => decide +kernel
end
end Mine
-- HeadG
namespace Mine
open PySem PySem.W PySem.Calls PyProof.Rows

theorem addAll_good {P : Params} : ∀ (xs : List (Nat × Tok)) (ys : List Str) (es : Array (Int × Value)) (n : Nat) (t : SetTable), Good P ys es t →
    ∃ es' n' t', Good P (ys ++ xs.map strOf) es' t' ∧ addAll P xs es n t = .set es' n' t'
  | [], ys, es, n, t, g => ⟨es, n + 1, { t with led := false }, by simpa using (⟨g.only, g.all, g.size, g.fits⟩ : Good P ys es { t with led := false }), rfl⟩
  | x :: xs, ys, es, n, t, g => by
    obtain ⟨es', n', t', g', h⟩ := addAll_good xs (ys ++ [⟨#[x.1]⟩]) _ _ _ (addE_good g ⟨#[x.1]⟩ x.2 n)
    refine ⟨es', n', t', ?_, h⟩
    have e : ys ++ (x :: xs).map strOf = (ys ++ [⟨#[x.1]⟩]) ++ xs.map strOf := by rw [List.map_cons, List.append_assoc]; rfl
    rw [e]; exact g'
noncomputable def setD (P : Params) (xs : List (Nat × Tok)) : Data := addAll P xs #[] 0 (.fresh 0 0 (!P.followText "set-order"))
theorem setD_good (P : Params) (xs : List (Nat × Tok)) : ∃ es n t, Good P (xs.map strOf) es t ∧ setD P xs = .set es n t := by
  have g0 : Good P [] #[] (.fresh 0 0 (!P.followText "set-order")) := ⟨fun e he => by simp at he, fun x hx => (nomatch hx), rfl, by cases P.followText "set-order" <;> rfl⟩
  obtain ⟨es, n, t, g, h⟩ := addAll_good xs [] #[] 0 _ g0
  exact ⟨es, n, t, by simpa using g, h⟩
noncomputable def D1 (P : Params) : Data := setD P xs0
noncomputable def D2 (P : Params) : Data := setD P xs1
noncomputable def D3 (P : Params) : Data := setD P xs2

theorem ex_app {w : World} {B : List Frame} {c : Code} {b1 b2 : Nat} {l1 l2 : List Stmt} {env : Env} {p : Pos} {s : Shared} {Q : Flow → Pos → Shared → Prop}
    (h : Ex w B c b1 (execs l1 env) p s (fun f p' s' => f = .next ∧ Ex w B c b2 (execs l2 env) p' s' Q)) : Ex w B c (b1 + b2) (execs (l1 ++ l2) env) p s Q := fun K H gd lv => by
  rw [execs_app_wrap]
  obtain ⟨n, a, p', s', h1, h2, rfl, h3⟩ := h (fun f => match f with | .next => (execs l2 env).wrap K H gd lv | f => K f) H gd lv
  obtain ⟨n', a, p'', s'', h4, h5, h6⟩ := h3 K H gd lv
  exact ⟨n + n', a, p'', s'', Nat.add_le_add h1 h4, segGo_app h2 h5, h6⟩
theorem ex_single {w : World} {B : List Frame} {c : Code} {b : Nat} {st : Stmt} {env : Env} {p : Pos} {s : Shared} {Q : Flow → Pos → Shared → Prop}
    (h : Ex w B c b (exec st env) p s (fun f p' s' => f = .next ∧ Q .next p' s')) : Ex w B c b (execs [st] env) p s Q := by
  rw [arm_execs_cons]
  refine Ex.mono (b := b + 0) (Ex.bind (b := b) (b' := 0) (h.mono (Nat.le_refl b) fun f p' s' hq => ?_)) (Nat.le_refl _) (fun _ _ _ h => h)
  obtain ⟨rfl, hq⟩ := hq
  rw [arm_execs_nil]
  exact Ex.pure hq

theorem body_split : cbody = [meth 6 0] ++ ([meth 6 1] ++ ([meth 6 2] ++ ((cbody.drop 3).take 7 ++ ((cbody.drop 10).take 1 ++ ((cbody.drop 11).take 1 ++ cbody.drop 12))))) := by kernel_rfl

theorem class_body (w : World) (os : OsState) (k : Result → Sem PySem.Fin) (l : List Value) :
    Ex w (stk k l cT pos6 q0) cC 20000 (execs cbody envC) pos6 (sC0 w.params 473 os).abs (fun f p' s' => f = .next ∧ p' = ⟨315, 4, 315, 7⟩ ∧ s' = (sC14 w.params (D1 w.params) (D2 w.params) (D3 w.params) 1604 os).abs) := by
  rw [body_split]
  refine Ex.mono (b := 1000 + (1000 + (1000 + (205 + (3686 + (6341 + 2092)))))) ?_ (by decide) (fun _ _ _ h => h)
  refine ex_app (ex_single ((setrun0 w os k l).mono (Nat.le_refl _) fun f p' s' hq => ?_))
  obtain ⟨rfl, rfl, rfl⟩ := hq
  refine ⟨rfl, rfl, ex_app (ex_single ((setrun1 w os _ k l).mono (Nat.le_refl _) fun f p' s' hq => ?_))⟩
  obtain ⟨rfl, rfl, rfl⟩ := hq
  refine ⟨rfl, rfl, ex_app (ex_single ((setrun2 w os _ _ k l).mono (Nat.le_refl _) fun f p' s' hq => ?_))⟩
  obtain ⟨rfl, rfl, rfl⟩ := hq
  refine ⟨rfl, rfl, ex_app (Ex.ofT (ch3 w os _ _ _ k l) ⟨rfl, ex_app (Ex.ofT (ch10 w os _ _ _ k l) ⟨rfl, ex_app (Ex.ofT (ch11 w os _ _ _ k l) ⟨rfl, Ex.ofT (ch12 w os _ _ _ k l) ⟨rfl, rfl, ?_⟩⟩)⟩)⟩)⟩
  rfl

theorem class_run (w : World) (os : OsState) : ∃ n, n ≤ 30000 ∧ segRun treeTable pw w 11 annT 1 n (s6 w.params 461 os).abs (pieceOf (top 6) envT cT pos5 [topFrame q0]) =
    some (.next, (s7 w.params (D1 w.params) (D2 w.params) (D3 w.params) 1613 os).abs, cT, pos6) := by
  have hA := segGo_of (chA w os)
  rw [chB] at hA
  obtain ⟨n, a, p', s', hn, h2, rfl, rfl, rfl⟩ := class_body w os (k1 w os) l1 doneF (leaveH envC) id id
  obtain ⟨e1, n1, t1, _, h1⟩ := setD_good w.params xs0
  obtain ⟨e2, n2, t2, _, h2'⟩ := setD_good w.params xs1
  obtain ⟨e3, n3, t3, _, h3⟩ := setD_good w.params xs2
  have hZ := segRun_of (chZ w os e1 e2 e3 n1 n2 n3 t1 t2 t3)
  rw [← h1, ← h2', ← h3] at hZ
  have := seg_go (segGo_app hA h2) hZ
  exact ⟨64 + n + 167, by omega, this⟩
end Mine
-- HeadH
namespace Mine
open PySem PySem.W PySem.Calls PyProof.Rows

abbrev posf : Pos := ⟨381, 0, 394, 107⟩
theorem chPre (w : World) (os : OsState) : topGo treeTable pw w 11 annT 12 ⟨boot_heap w.params, #[], boot_drawn, boot_toks, os⟩ (topStub pw) = some ((sb w.params 187 os).abs, ⟨denote treeTable cT, cT, q0, [topFrame q0]⟩) := by kernel_rfl
theorem chBlk (w : World) (os : OsState) : segRun treeTable pw w 11 annT 1 1 (sb w.params 187 os).abs (blockOf tops envT cT q0 [topFrame q0]) = some (.next, (sb w.params 187 os).abs, cT, q0) := by kernel_rfl
theorem ch05 (w : World) (os : OsState) : segRunT treeTable pw w 11 annT 1 1254 (sb w.params 187 os) (piecesOf (tops.take 6) envT cT q0 [topFrame q0]) = some (.next, s6 w.params 461 os, cT, pos5) := by kernel_rfl
theorem ch7 (w : World) (os : OsState) (e1 e2 e3 : Array (Int × Value)) (n1 n2 n3 : Nat) (t1 t2 t3 : SetTable) : segRunT treeTable pw w 11 annT 1 644 (s7 w.params (.set e1 n1 t1) (.set e2 n2 t2) (.set e3 n3 t3) 1613 os) (piecesOf (tops.drop 7) envT cT pos6 [topFrame q0]) =
    some (.next, sf w.params (.set e1 n1 t1) (.set e2 n2 t2) (.set e3 n3 t3) 1827 os, cT, posf) := by kernel_rfl
theorem tops_split : tops = tops.take 6 ++ (top 6 :: (tops.drop 7 ++ [])) := by kernel_rfl
theorem chFin (w : World) (os : OsState) (s : Shared) : topRun treeTable pw w 11 annT 2 s ⟨doneF .next, cT, posf, [topFrame q0]⟩ = some s := by
  obtain ⟨h, g, d, t, o⟩ := s
  kernel_rfl

theorem top_run (w : World) (os : OsState) : topRun treeTable pw w 11 annT 40000 ⟨boot_heap w.params, #[], boot_drawn, boot_toks, os⟩ (topStub pw) =
    some (sf w.params (D1 w.params) (D2 w.params) (D3 w.params) 1827 os).abs := by
  obtain ⟨n, hn, hc⟩ := class_run w os
  obtain ⟨e1, n1, t1, _, h1⟩ := setD_good w.params xs0
  obtain ⟨e2, n2, t2, _, h2⟩ := setD_good w.params xs1
  obtain ⟨e3, n3, t3, _, h3⟩ := setD_good w.params xs2
  have h7 := segRun_of (ch7 w os e1 e2 e3 n1 n2 n3 t1 t2 t3)
  rw [← h1, ← h2, ← h3] at h7
  have k0 := piece_nil (env := envT) (q := q0) (chFin w os (sf w.params (setD w.params xs0) (setD w.params xs1) (setD w.params xs2) 1827 os).abs)
  have k1 := piece_app h7 k0
  have k2 := piece_cons hc k1
  have k3 := piece_app (segRun_of (ch05 w os)) k2
  rw [← tops_split] at k3
  have k4 := piece_block (chBlk w os) k3
  have k5 := go_top (chPre w os) k4
  have k6 := topRun_mono (40000 - (12 + (1 + (1254 + (n + (644 + 2)))))) _ _ _ _ k5
  rw [show 12 + (1 + (1254 + (n + (644 + 2)))) + (40000 - (12 + (1 + (1254 + (n + (644 + 2)))))) = 40000 by omega] at k6
  exact k6
end Mine
-- HeadI
namespace Mine
open PySem PySem.W PySem.Calls PyProof.Rows

abbrev rwL : OpenLaw := PySem.Challenge.rw_ip0002_01
noncomputable def vq : Program := view pw [0, 2, 4, 6, 7, 9, 10, 11, 12, 13, 14, 15, 16, 17, 18, 19, 20, 21, 22, 23, 24]
noncomputable def vloose : List Str := [Str.ofString "SwedishStemmer", Str.ofString "_law_stays", Str.ofString "_law_first", Str.ofString "_law_pairs", Str.ofString "_law_third", Str.ofString "_law_often", Str.ofString "_law_rest", Str.ofString "_law_signs", Str.ofString "_law_begins"]
abbrev vXt : Shared → Bool := fun s => xlAt vq [] s && recOk (RowW.records (OpenRow.toRowW (OpenLaw.row rwL))) s
abbrev Hf (P : Params) (d1 d2 d3 : Data) : Heap := absHeap (Tf P d1 d2 d3) 572 {}
noncomputable def KG (P : Params) (d1 d2 d3 : Data) : Frag := [(nat_lit 2, o2_1 P), (nat_lit 3, o3_3 P), (nat_lit 15, o15 P), (nat_lit 17, o17 P), (nat_lit 18, o18 P), (nat_lit 20, o20 P), (nat_lit 21, o21 P), (nat_lit 29, o29 P), (nat_lit 31, o31 P), (nat_lit 32, o32 P), (nat_lit 34, o34 P), (nat_lit 35, o35 P), (nat_lit 36, o36 P), (nat_lit 38, o38 P), (nat_lit 39, o39 P), (nat_lit 41, o41 P), (nat_lit 42, o42 P), (nat_lit 43, o43 P), (nat_lit 45, o45 P), (nat_lit 46, o46 P), (nat_lit 48, o48 P), (nat_lit 49, o49 P), (nat_lit 50, o50 P), (nat_lit 52, o52 P), (nat_lit 53, o53 P), (nat_lit 55, o55 P), (nat_lit 56, o56 P), (nat_lit 57, o57 P), (nat_lit 59, o59 P), (nat_lit 60, o60 P), (nat_lit 62, o62 P), (nat_lit 63, o63 P), (nat_lit 64, o64 P), (nat_lit 66, o66 P), (nat_lit 67, o67 P), (nat_lit 69, o69 P), (nat_lit 70, o70 P), (nat_lit 71, o71 P), (nat_lit 73, o73 P), (nat_lit 74, o74 P), (nat_lit 76, o76 P), (nat_lit 77, o77 P), (nat_lit 78, o78 P), (nat_lit 80, o80 P), (nat_lit 81, o81 P), (nat_lit 83, o83 P), (nat_lit 84, o84 P), (nat_lit 85, o85 P), (nat_lit 87, o87 P), (nat_lit 88, o88 P), (nat_lit 90, o90 P), (nat_lit 91, o91 P), (nat_lit 92, o92 P), (nat_lit 94, o94 P), (nat_lit 95, o95 P), (nat_lit 97, o97 P), (nat_lit 98, o98 P), (nat_lit 99, o99 P), (nat_lit 101, o101 P), (nat_lit 102, o102 P), (nat_lit 104, o104 P), (nat_lit 105, o105 P), (nat_lit 106, o106 P), (nat_lit 108, o108 P), (nat_lit 109, o109 P), (nat_lit 111, o111 P), (nat_lit 112, o112 P), (nat_lit 113, o113 P), (nat_lit 115, o115 P), (nat_lit 116, o116 P), (nat_lit 118, o118 P), (nat_lit 119, o119 P), (nat_lit 120, o120 P), (nat_lit 122, o122 P), (nat_lit 123, o123 P), (nat_lit 125, o125 P), (nat_lit 126, o126 P), (nat_lit 127, o127 P), (nat_lit 129, o129 P), (nat_lit 130, o130 P), (nat_lit 132, o132 P), (nat_lit 133, o133 P), (nat_lit 134, o134 P), (nat_lit 136, o136 P), (nat_lit 137, o137 P), (nat_lit 139, o139 P), (nat_lit 140, o140 P), (nat_lit 141, o141 P), (nat_lit 143, o143 P), (nat_lit 144, o144 P), (nat_lit 146, o146 P), (nat_lit 147, o147 P), (nat_lit 148, o148 P), (nat_lit 150, o150 P), (nat_lit 151, o151 P), (nat_lit 153, o153 P), (nat_lit 154, o154 P), (nat_lit 155, o155 P), (nat_lit 157, o157 P), (nat_lit 158, o158 P), (nat_lit 160, o160 P), (nat_lit 161, o161 P), (nat_lit 162, o162 P), (nat_lit 164, o164 P), (nat_lit 165, o165 P), (nat_lit 167, o167 P), (nat_lit 168, o168 P), (nat_lit 169, o169 P), (nat_lit 171, o171 P), (nat_lit 172, o172 P), (nat_lit 174, o174 P), (nat_lit 175, o175 P), (nat_lit 176, o176 P), (nat_lit 178, o178 P), (nat_lit 179, o179 P), (nat_lit 181, o181 P), (nat_lit 182, o182 P), (nat_lit 183, o183 P), (nat_lit 185, o185 P), (nat_lit 186, o186 P), (nat_lit 188, o188 P), (nat_lit 189, o189 P), (nat_lit 190, o190 P), (nat_lit 193, o193 P), (nat_lit 194, o194 P), (nat_lit 195, o195 P), (nat_lit 196, o196 P), (nat_lit 197, o197_1 P), (nat_lit 198, o198 P), (nat_lit 199, o199 P), (nat_lit 209, o209 P), (nat_lit 211, o211 P), (nat_lit 212, o212 P), (nat_lit 214, o214 P), (nat_lit 215, o215 P), (nat_lit 216, o216 P), (nat_lit 217, o217 P), (nat_lit 218, o218 P), (nat_lit 219, o219 P), (nat_lit 220, o220 P), (nat_lit 223, o223 P), (nat_lit 230, so d1), (nat_lit 231, so d2), (nat_lit 232, so d3), (nat_lit 233, o233 P), (nat_lit 235, o235 P), (nat_lit 236, o236 P), (nat_lit 238, o238 P), (nat_lit 239, o239 P), (nat_lit 240, o240 P), (nat_lit 242, o242 P), (nat_lit 243, o243 P), (nat_lit 245, o245 P), (nat_lit 246, o246 P), (nat_lit 247, o247 P), (nat_lit 249, o249 P), (nat_lit 250, o250 P), (nat_lit 252, o252 P), (nat_lit 253, o253 P), (nat_lit 254, o254 P), (nat_lit 256, o256 P), (nat_lit 257, o257 P), (nat_lit 259, o259 P), (nat_lit 260, o260 P), (nat_lit 261, o261 P), (nat_lit 263, o263 P), (nat_lit 264, o264 P), (nat_lit 266, o266 P), (nat_lit 267, o267 P), (nat_lit 268, o268 P), (nat_lit 270, o270 P), (nat_lit 271, o271 P), (nat_lit 273, o273 P), (nat_lit 274, o274 P), (nat_lit 275, o275 P), (nat_lit 276, o276 P), (nat_lit 278, o278 P), (nat_lit 279, o279 P), (nat_lit 281, o281 P), (nat_lit 282, o282 P), (nat_lit 284, o284 P), (nat_lit 285, o285 P), (nat_lit 287, o287 P), (nat_lit 288, o288 P), (nat_lit 290, o290 P), (nat_lit 291, o291 P), (nat_lit 293, o293 P), (nat_lit 294, o294 P), (nat_lit 296, o296 P), (nat_lit 297, o297 P), (nat_lit 299, o299 P), (nat_lit 300, o300 P), (nat_lit 302, o302 P), (nat_lit 303, o303 P), (nat_lit 305, o305 P), (nat_lit 306, o306 P), (nat_lit 308, o308 P), (nat_lit 309, o309 P), (nat_lit 311, o311 P), (nat_lit 312, o312 P), (nat_lit 314, o314 P), (nat_lit 315, o315 P), (nat_lit 317, o317 P), (nat_lit 318, o318 P), (nat_lit 320, o320 P), (nat_lit 321, o321 P), (nat_lit 323, o323 P), (nat_lit 324, o324 P), (nat_lit 326, o326 P), (nat_lit 327, o327 P), (nat_lit 329, o329 P), (nat_lit 330, o330 P), (nat_lit 332, o332 P), (nat_lit 333, o333 P), (nat_lit 335, o335 P), (nat_lit 336, o336 P), (nat_lit 338, o338 P), (nat_lit 339, o339 P), (nat_lit 340, o340 P), (nat_lit 342, o342 P), (nat_lit 343, o343 P), (nat_lit 345, o345 P), (nat_lit 346, o346 P), (nat_lit 348, o348 P), (nat_lit 349, o349 P), (nat_lit 351, o351 P), (nat_lit 352, o352 P), (nat_lit 354, o354 P), (nat_lit 355, o355 P), (nat_lit 357, o357 P), (nat_lit 358, o358 P), (nat_lit 360, o360 P), (nat_lit 361, o361 P), (nat_lit 363, o363 P), (nat_lit 364, o364 P), (nat_lit 366, o366 P), (nat_lit 367, o367 P), (nat_lit 369, o369 P), (nat_lit 370, o370 P), (nat_lit 372, o372 P), (nat_lit 373, o373 P), (nat_lit 375, o375 P), (nat_lit 376, o376 P), (nat_lit 378, o378 P), (nat_lit 379, o379 P), (nat_lit 381, o381 P), (nat_lit 382, o382 P), (nat_lit 384, o384 P), (nat_lit 385, o385 P), (nat_lit 387, o387 P), (nat_lit 388, o388 P), (nat_lit 390, o390 P), (nat_lit 391, o391 P), (nat_lit 393, o393 P), (nat_lit 394, o394 P), (nat_lit 396, o396 P), (nat_lit 397, o397 P), (nat_lit 399, o399 P), (nat_lit 400, o400 P), (nat_lit 402, o402 P), (nat_lit 403, o403 P), (nat_lit 405, o405 P), (nat_lit 406, o406 P), (nat_lit 408, o408 P), (nat_lit 409, o409 P), (nat_lit 411, o411 P), (nat_lit 412, o412 P), (nat_lit 414, o414 P), (nat_lit 415, o415 P), (nat_lit 417, o417 P), (nat_lit 418, o418 P), (nat_lit 420, o420 P), (nat_lit 421, o421 P), (nat_lit 423, o423 P), (nat_lit 424, o424 P), (nat_lit 426, o426 P), (nat_lit 427, o427 P), (nat_lit 429, o429 P), (nat_lit 430, o430 P), (nat_lit 432, o432 P), (nat_lit 433, o433 P), (nat_lit 435, o435 P), (nat_lit 436, o436 P), (nat_lit 438, o438 P), (nat_lit 439, o439 P), (nat_lit 441, o441 P), (nat_lit 442, o442 P), (nat_lit 444, o444 P), (nat_lit 445, o445 P), (nat_lit 447, o447 P), (nat_lit 448, o448 P), (nat_lit 450, o450 P), (nat_lit 451, o451 P), (nat_lit 453, o453 P), (nat_lit 454, o454 P), (nat_lit 455, o455 P), (nat_lit 457, o457 P), (nat_lit 458, o458 P), (nat_lit 460, o460 P), (nat_lit 461, o461 P), (nat_lit 463, o463 P), (nat_lit 464, o464 P), (nat_lit 466, o466 P), (nat_lit 467, o467 P), (nat_lit 469, o469 P), (nat_lit 470, o470 P), (nat_lit 472, o472 P), (nat_lit 473, o473 P), (nat_lit 475, o475 P), (nat_lit 476, o476 P), (nat_lit 477, o477 P), (nat_lit 479, o479 P), (nat_lit 480, o480 P), (nat_lit 482, o482 P), (nat_lit 483, o483 P), (nat_lit 485, o485 P), (nat_lit 486, o486 P), (nat_lit 488, o488 P), (nat_lit 489, o489 P), (nat_lit 491, o491 P), (nat_lit 492, o492 P), (nat_lit 493, o493 P), (nat_lit 494, o494 P), (nat_lit 497, o497 P), (nat_lit 504, o504 P), (nat_lit 505, o505 P), (nat_lit 506, o506 P), (nat_lit 507, o507 P), (nat_lit 510, o510 P), (nat_lit 512, o512 P), (nat_lit 513, o513 P), (nat_lit 515, o515 P), (nat_lit 516, o516 P), (nat_lit 517, o517 P), (nat_lit 519, o519 P), (nat_lit 520, o520 P), (nat_lit 522, o522 P), (nat_lit 523, o523 P), (nat_lit 524, o524 P), (nat_lit 526, o526 P), (nat_lit 527, o527 P), (nat_lit 529, o529 P), (nat_lit 530, o530 P), (nat_lit 531, o531 P), (nat_lit 532, o532 P), (nat_lit 533, o533 P), (nat_lit 534, o534 P), (nat_lit 535, o535 P), (nat_lit 536, o536 P), (nat_lit 537, o537 P), (nat_lit 538, o538 P), (nat_lit 539, o539 P), (nat_lit 541, o541 P), (nat_lit 542, o542 P), (nat_lit 544, o544 P), (nat_lit 545, o545 P), (nat_lit 546, o546 P), (nat_lit 548, o548 P), (nat_lit 549, o549 P), (nat_lit 551, o551 P), (nat_lit 552, o552 P), (nat_lit 553, o553 P), (nat_lit 555, o555 P), (nat_lit 556, o556 P), (nat_lit 558, o558 P), (nat_lit 559, o559 P), (nat_lit 560, o560 P), (nat_lit 562, o562 P), (nat_lit 563, o563 P), (nat_lit 565, o565 P), (nat_lit 566, o566 P), (nat_lit 567, o567 P), (nat_lit 570, o570 P), (nat_lit 571, o571 P)]
noncomputable def KFas : List Addr := [2, 3, 15, 17, 18, 20, 21, 29, 31, 32, 34, 35, 36, 38, 39, 41, 42, 43, 45, 46, 48, 49, 50, 52, 53, 55, 56, 57, 59, 60, 62, 63, 64, 66, 67, 69, 70, 71, 73, 74, 76, 77, 78, 80, 81, 83, 84, 85, 87, 88, 90, 91, 92, 94, 95, 97, 98, 99, 101, 102, 104, 105, 106, 108, 109, 111, 112, 113, 115, 116, 118, 119, 120, 122, 123, 125, 126, 127, 129, 130, 132, 133, 134, 136, 137, 139, 140, 141, 143, 144, 146, 147, 148, 150, 151, 153, 154, 155, 157, 158, 160, 161, 162, 164, 165, 167, 168, 169, 171, 172, 174, 175, 176, 178, 179, 181, 182, 183, 185, 186, 188, 189, 190, 193, 194, 195, 196, 197, 198, 199, 209, 211, 212, 214, 215, 216, 217, 218, 219, 220, 223, 230, 231, 232, 233, 235, 236, 238, 239, 240, 242, 243, 245, 246, 247, 249, 250, 252, 253, 254, 256, 257, 259, 260, 261, 263, 264, 266, 267, 268, 270, 271, 273, 274, 275, 276, 278, 279, 281, 282, 284, 285, 287, 288, 290, 291, 293, 294, 296, 297, 299, 300, 302, 303, 305, 306, 308, 309, 311, 312, 314, 315, 317, 318, 320, 321, 323, 324, 326, 327, 329, 330, 332, 333, 335, 336, 338, 339, 340, 342, 343, 345, 346, 348, 349, 351, 352, 354, 355, 357, 358, 360, 361, 363, 364, 366, 367, 369, 370, 372, 373, 375, 376, 378, 379, 381, 382, 384, 385, 387, 388, 390, 391, 393, 394, 396, 397, 399, 400, 402, 403, 405, 406, 408, 409, 411, 412, 414, 415, 417, 418, 420, 421, 423, 424, 426, 427, 429, 430, 432, 433, 435, 436, 438, 439, 441, 442, 444, 445, 447, 448, 450, 451, 453, 454, 455, 457, 458, 460, 461, 463, 464, 466, 467, 469, 470, 472, 473, 475, 476, 477, 479, 480, 482, 483, 485, 486, 488, 489, 491, 492, 493, 494, 497, 504, 505, 506, 507, 510, 512, 513, 515, 516, 517, 519, 520, 522, 523, 524, 526, 527, 529, 530, 531, 532, 533, 534, 535, 536, 537, 538, 539, 541, 542, 544, 545, 546, 548, 549, 551, 552, 553, 555, 556, 558, 559, 560, 562, 563, 565, 566, 567, 570, 571]
noncomputable def KF (P : Params) : Frag := (nat_lit 2, o2_1 P) :: (nat_lit 3, o3_3 P) :: (nat_lit 15, o15 P) :: (nat_lit 17, o17 P) :: (nat_lit 18, o18 P) :: (nat_lit 20, o20 P) :: (nat_lit 21, o21 P) :: (nat_lit 29, o29 P) :: (nat_lit 31, o31 P) :: (nat_lit 32, o32 P) :: (nat_lit 34, o34 P) :: (nat_lit 35, o35 P) :: (nat_lit 36, o36 P) :: (nat_lit 38, o38 P) :: (nat_lit 39, o39 P) :: (nat_lit 41, o41 P) :: (nat_lit 42, o42 P) :: (nat_lit 43, o43 P) :: (nat_lit 45, o45 P) :: (nat_lit 46, o46 P) :: (nat_lit 48, o48 P) :: (nat_lit 49, o49 P) :: (nat_lit 50, o50 P) :: (nat_lit 52, o52 P) :: (nat_lit 53, o53 P) :: (nat_lit 55, o55 P) :: (nat_lit 56, o56 P) :: (nat_lit 57, o57 P) :: (nat_lit 59, o59 P) :: (nat_lit 60, o60 P) :: (nat_lit 62, o62 P) :: (nat_lit 63, o63 P) :: (nat_lit 64, o64 P) :: (nat_lit 66, o66 P) :: (nat_lit 67, o67 P) :: (nat_lit 69, o69 P) :: (nat_lit 70, o70 P) :: (nat_lit 71, o71 P) :: (nat_lit 73, o73 P) :: (nat_lit 74, o74 P) :: (nat_lit 76, o76 P) :: (nat_lit 77, o77 P) :: (nat_lit 78, o78 P) :: (nat_lit 80, o80 P) :: (nat_lit 81, o81 P) :: (nat_lit 83, o83 P) :: (nat_lit 84, o84 P) :: (nat_lit 85, o85 P) :: (nat_lit 87, o87 P) :: (nat_lit 88, o88 P) :: (nat_lit 90, o90 P) :: (nat_lit 91, o91 P) :: (nat_lit 92, o92 P) :: (nat_lit 94, o94 P) :: (nat_lit 95, o95 P) :: (nat_lit 97, o97 P) :: (nat_lit 98, o98 P) :: (nat_lit 99, o99 P) :: (nat_lit 101, o101 P) :: (nat_lit 102, o102 P) :: (nat_lit 104, o104 P) :: (nat_lit 105, o105 P) :: (nat_lit 106, o106 P) :: (nat_lit 108, o108 P) :: (nat_lit 109, o109 P) :: (nat_lit 111, o111 P) :: (nat_lit 112, o112 P) :: (nat_lit 113, o113 P) :: (nat_lit 115, o115 P) :: (nat_lit 116, o116 P) :: (nat_lit 118, o118 P) :: (nat_lit 119, o119 P) :: (nat_lit 120, o120 P) :: (nat_lit 122, o122 P) :: (nat_lit 123, o123 P) :: (nat_lit 125, o125 P) :: (nat_lit 126, o126 P) :: (nat_lit 127, o127 P) :: (nat_lit 129, o129 P) :: (nat_lit 130, o130 P) :: (nat_lit 132, o132 P) :: (nat_lit 133, o133 P) :: (nat_lit 134, o134 P) :: (nat_lit 136, o136 P) :: (nat_lit 137, o137 P) :: (nat_lit 139, o139 P) :: (nat_lit 140, o140 P) :: (nat_lit 141, o141 P) :: (nat_lit 143, o143 P) :: (nat_lit 144, o144 P) :: (nat_lit 146, o146 P) :: (nat_lit 147, o147 P) :: (nat_lit 148, o148 P) :: (nat_lit 150, o150 P) :: (nat_lit 151, o151 P) :: (nat_lit 153, o153 P) :: (nat_lit 154, o154 P) :: (nat_lit 155, o155 P) :: (nat_lit 157, o157 P) :: (nat_lit 158, o158 P) :: (nat_lit 160, o160 P) :: (nat_lit 161, o161 P) :: (nat_lit 162, o162 P) :: (nat_lit 164, o164 P) :: (nat_lit 165, o165 P) :: (nat_lit 167, o167 P) :: (nat_lit 168, o168 P) :: (nat_lit 169, o169 P) :: (nat_lit 171, o171 P) :: (nat_lit 172, o172 P) :: (nat_lit 174, o174 P) :: (nat_lit 175, o175 P) :: (nat_lit 176, o176 P) :: (nat_lit 178, o178 P) :: (nat_lit 179, o179 P) :: (nat_lit 181, o181 P) :: (nat_lit 182, o182 P) :: (nat_lit 183, o183 P) :: (nat_lit 185, o185 P) :: (nat_lit 186, o186 P) :: (nat_lit 188, o188 P) :: (nat_lit 189, o189 P) :: (nat_lit 190, o190 P) :: (nat_lit 193, o193 P) :: (nat_lit 194, o194 P) :: (nat_lit 195, o195 P) :: (nat_lit 196, o196 P) :: (nat_lit 197, o197_1 P) :: (nat_lit 198, o198 P) :: (nat_lit 199, o199 P) :: (nat_lit 209, o209 P) :: (nat_lit 211, o211 P) :: (nat_lit 212, o212 P) :: (nat_lit 214, o214 P) :: (nat_lit 215, o215 P) :: (nat_lit 216, o216 P) :: (nat_lit 217, o217 P) :: (nat_lit 218, o218 P) :: (nat_lit 219, o219 P) :: (nat_lit 220, o220 P) :: (nat_lit 223, o223 P) :: (nat_lit 230, so (D1 P)) :: (nat_lit 231, so (D2 P)) :: (nat_lit 232, so (D3 P)) :: (nat_lit 233, o233 P) :: (nat_lit 235, o235 P) :: (nat_lit 236, o236 P) :: (nat_lit 238, o238 P) :: (nat_lit 239, o239 P) :: (nat_lit 240, o240 P) :: (nat_lit 242, o242 P) :: (nat_lit 243, o243 P) :: (nat_lit 245, o245 P) :: (nat_lit 246, o246 P) :: (nat_lit 247, o247 P) :: (nat_lit 249, o249 P) :: (nat_lit 250, o250 P) :: (nat_lit 252, o252 P) :: (nat_lit 253, o253 P) :: (nat_lit 254, o254 P) :: (nat_lit 256, o256 P) :: (nat_lit 257, o257 P) :: (nat_lit 259, o259 P) :: (nat_lit 260, o260 P) :: (nat_lit 261, o261 P) :: (nat_lit 263, o263 P) :: (nat_lit 264, o264 P) :: (nat_lit 266, o266 P) :: (nat_lit 267, o267 P) :: (nat_lit 268, o268 P) :: (nat_lit 270, o270 P) :: (nat_lit 271, o271 P) :: (nat_lit 273, o273 P) :: (nat_lit 274, o274 P) :: (nat_lit 275, o275 P) :: (nat_lit 276, o276 P) :: (nat_lit 278, o278 P) :: (nat_lit 279, o279 P) :: (nat_lit 281, o281 P) :: (nat_lit 282, o282 P) :: (nat_lit 284, o284 P) :: (nat_lit 285, o285 P) :: (nat_lit 287, o287 P) :: (nat_lit 288, o288 P) :: (nat_lit 290, o290 P) :: (nat_lit 291, o291 P) :: (nat_lit 293, o293 P) :: (nat_lit 294, o294 P) :: (nat_lit 296, o296 P) :: (nat_lit 297, o297 P) :: (nat_lit 299, o299 P) :: (nat_lit 300, o300 P) :: (nat_lit 302, o302 P) :: (nat_lit 303, o303 P) :: (nat_lit 305, o305 P) :: (nat_lit 306, o306 P) :: (nat_lit 308, o308 P) :: (nat_lit 309, o309 P) :: (nat_lit 311, o311 P) :: (nat_lit 312, o312 P) :: (nat_lit 314, o314 P) :: (nat_lit 315, o315 P) :: (nat_lit 317, o317 P) :: (nat_lit 318, o318 P) :: (nat_lit 320, o320 P) :: (nat_lit 321, o321 P) :: (nat_lit 323, o323 P) :: (nat_lit 324, o324 P) :: (nat_lit 326, o326 P) :: (nat_lit 327, o327 P) :: (nat_lit 329, o329 P) :: (nat_lit 330, o330 P) :: (nat_lit 332, o332 P) :: (nat_lit 333, o333 P) :: (nat_lit 335, o335 P) :: (nat_lit 336, o336 P) :: (nat_lit 338, o338 P) :: (nat_lit 339, o339 P) :: (nat_lit 340, o340 P) :: (nat_lit 342, o342 P) :: (nat_lit 343, o343 P) :: (nat_lit 345, o345 P) :: (nat_lit 346, o346 P) :: (nat_lit 348, o348 P) :: (nat_lit 349, o349 P) :: (nat_lit 351, o351 P) :: (nat_lit 352, o352 P) :: (nat_lit 354, o354 P) :: (nat_lit 355, o355 P) :: (nat_lit 357, o357 P) :: (nat_lit 358, o358 P) :: (nat_lit 360, o360 P) :: (nat_lit 361, o361 P) :: (nat_lit 363, o363 P) :: (nat_lit 364, o364 P) :: (nat_lit 366, o366 P) :: (nat_lit 367, o367 P) :: (nat_lit 369, o369 P) :: (nat_lit 370, o370 P) :: (nat_lit 372, o372 P) :: (nat_lit 373, o373 P) :: (nat_lit 375, o375 P) :: (nat_lit 376, o376 P) :: (nat_lit 378, o378 P) :: (nat_lit 379, o379 P) :: (nat_lit 381, o381 P) :: (nat_lit 382, o382 P) :: (nat_lit 384, o384 P) :: (nat_lit 385, o385 P) :: (nat_lit 387, o387 P) :: (nat_lit 388, o388 P) :: (nat_lit 390, o390 P) :: (nat_lit 391, o391 P) :: (nat_lit 393, o393 P) :: (nat_lit 394, o394 P) :: (nat_lit 396, o396 P) :: (nat_lit 397, o397 P) :: (nat_lit 399, o399 P) :: (nat_lit 400, o400 P) :: (nat_lit 402, o402 P) :: (nat_lit 403, o403 P) :: (nat_lit 405, o405 P) :: (nat_lit 406, o406 P) :: (nat_lit 408, o408 P) :: (nat_lit 409, o409 P) :: (nat_lit 411, o411 P) :: (nat_lit 412, o412 P) :: (nat_lit 414, o414 P) :: (nat_lit 415, o415 P) :: (nat_lit 417, o417 P) :: (nat_lit 418, o418 P) :: (nat_lit 420, o420 P) :: (nat_lit 421, o421 P) :: (nat_lit 423, o423 P) :: (nat_lit 424, o424 P) :: (nat_lit 426, o426 P) :: (nat_lit 427, o427 P) :: (nat_lit 429, o429 P) :: (nat_lit 430, o430 P) :: (nat_lit 432, o432 P) :: (nat_lit 433, o433 P) :: (nat_lit 435, o435 P) :: (nat_lit 436, o436 P) :: (nat_lit 438, o438 P) :: (nat_lit 439, o439 P) :: (nat_lit 441, o441 P) :: (nat_lit 442, o442 P) :: (nat_lit 444, o444 P) :: (nat_lit 445, o445 P) :: (nat_lit 447, o447 P) :: (nat_lit 448, o448 P) :: (nat_lit 450, o450 P) :: (nat_lit 451, o451 P) :: (nat_lit 453, o453 P) :: (nat_lit 454, o454 P) :: (nat_lit 455, o455 P) :: (nat_lit 457, o457 P) :: (nat_lit 458, o458 P) :: (nat_lit 460, o460 P) :: (nat_lit 461, o461 P) :: (nat_lit 463, o463 P) :: (nat_lit 464, o464 P) :: (nat_lit 466, o466 P) :: (nat_lit 467, o467 P) :: (nat_lit 469, o469 P) :: (nat_lit 470, o470 P) :: (nat_lit 472, o472 P) :: (nat_lit 473, o473 P) :: (nat_lit 475, o475 P) :: (nat_lit 476, o476 P) :: (nat_lit 477, o477 P) :: (nat_lit 479, o479 P) :: (nat_lit 480, o480 P) :: (nat_lit 482, o482 P) :: (nat_lit 483, o483 P) :: (nat_lit 485, o485 P) :: (nat_lit 486, o486 P) :: (nat_lit 488, o488 P) :: (nat_lit 489, o489 P) :: (nat_lit 491, o491 P) :: (nat_lit 492, o492 P) :: (nat_lit 493, o493 P) :: (nat_lit 494, o494 P) :: (nat_lit 497, o497 P) :: (nat_lit 504, o504 P) :: (nat_lit 505, o505 P) :: (nat_lit 506, o506 P) :: (nat_lit 507, o507 P) :: (nat_lit 510, o510 P) :: (nat_lit 512, o512 P) :: (nat_lit 513, o513 P) :: (nat_lit 515, o515 P) :: (nat_lit 516, o516 P) :: (nat_lit 517, o517 P) :: (nat_lit 519, o519 P) :: (nat_lit 520, o520 P) :: (nat_lit 522, o522 P) :: (nat_lit 523, o523 P) :: (nat_lit 524, o524 P) :: (nat_lit 526, o526 P) :: (nat_lit 527, o527 P) :: (nat_lit 529, o529 P) :: (nat_lit 530, o530 P) :: (nat_lit 531, o531 P) :: (nat_lit 532, o532 P) :: (nat_lit 533, o533 P) :: (nat_lit 534, o534 P) :: (nat_lit 535, o535 P) :: (nat_lit 536, o536 P) :: (nat_lit 537, o537 P) :: (nat_lit 538, o538 P) :: (nat_lit 539, o539 P) :: (nat_lit 541, o541 P) :: (nat_lit 542, o542 P) :: (nat_lit 544, o544 P) :: (nat_lit 545, o545 P) :: (nat_lit 546, o546 P) :: (nat_lit 548, o548 P) :: (nat_lit 549, o549 P) :: (nat_lit 551, o551 P) :: (nat_lit 552, o552 P) :: (nat_lit 553, o553 P) :: (nat_lit 555, o555 P) :: (nat_lit 556, o556 P) :: (nat_lit 558, o558 P) :: (nat_lit 559, o559 P) :: (nat_lit 560, o560 P) :: (nat_lit 562, o562 P) :: (nat_lit 563, o563 P) :: (nat_lit 565, o565 P) :: (nat_lit 566, o566 P) :: (nat_lit 567, o567 P) :: (nat_lit 570, o570 P) :: (nat_lit 571, o571 P) :: []
theorem KF_eq (P : Params) : KF P = KG P (D1 P) (D2 P) (D3 P) := by kernel_rfl
theorem KF_as (P : Params) : KFas = (KF P).map (·.1) := by kernel_rfl
section
variable (w : World) (os : OsState) (e1 e2 e3 : Array (Int × Value)) (n1 n2 n3 : Nat) (t1 t2 t3 : SetTable)
theorem lk1 : (staticsOk (importedModules pw.main.body) (boot_heap w.params) (Hf w.params (.set e1 n1 t1) (.set e2 n2 t2) (.set e3 n3 t3)) && namesBound pw (Hf w.params (.set e1 n1 t1) (.set e2 n2 t2) (.set e3 n3 t3)) && gensDone ⟨Hf w.params (.set e1 n1 t1) (.set e2 n2 t2) (.set e3 n3 t3), #[], {}, 1827, os⟩ &&
    laidKept (boot_heap w.params) (Hf w.params (.set e1 n1 t1) (.set e2 n2 t2) (.set e3 n3 t3))) = true := by kernel_rfl
theorem lk3 : KFas.map (Hf w.params (.set e1 n1 t1) (.set e2 n2 t2) (.set e3 n3 t3)).get? = (KG w.params (.set e1 n1 t1) (.set e2 n2 t2) (.set e3 n3 t3)).map fun p => some p.2 := by kernel_rfl
theorem lk2 : openSeen vq vloose (importedModules pw.main.body) vXt true ⟨Hf w.params (.set e1 n1 t1) (.set e2 n2 t2) (.set e3 n3 t3), #[], {}, 1827, os⟩ = openGood vq vloose := by kernel_rfl
end
end Mine
-- HeadJ
namespace Mine
open PySem PySem.W PySem.Calls PyProof.Rows

abbrev vH : Hook := kHook KF KFas KF_as
theorem left : LeftO pw vq vloose vXt (Hook.obs vH) (Hook.val vH) 50000 := by
  refine LeftO.of_pieces (H₀ := boot_heap) (H₁ := fun P => Hf P (D1 P) (D2 P) (D3 P)) (gs₀ := Array.mk []) (gs₁ := Array.mk []) (d₀ := boot_drawn) (d₁ := {}) (k₀ := boot_toks) (k₁ := 1827) (m₀ := 11) (ann := annT) (M := 40000) ?_ ?_ ?_ (by decide) ?_
  · exact boot_open (p := pw) (N := 50000) (by kernel_rfl) (by decide) (fun s => rfl)
  · intro w
    kernel_rfl
  · intro w os
    exact top_run w os
  · intro w
    funext os
    obtain ⟨e1, n1, t1, _, h1⟩ := setD_good w.params xs0
    obtain ⟨e2, n2, t2, _, h2⟩ := setD_good w.params xs1
    obtain ⟨e3, n3, t3, _, h3⟩ := setD_good w.params xs2
    have k1 := lk1 w os e1 e2 e3 n1 n2 n3 t1 t2 t3
    have k2 := lk2 w os e1 e2 e3 n1 n2 n3 t1 t2 t3
    have k3 := lk3 w e1 e2 e3 n1 n2 n3 t1 t2 t3
    rw [← h1, ← h2, ← h3] at k1 k2 k3
    exact Prod.ext k1 (Prod.ext k2 k3)
end Mine
-- W0
namespace Mine
open PySem PySem.W PySem.Calls PyProof.Rows PySem.Spec

theorem fill_K : PySem.Challenge.rw_ip0002_01 = PySem.Challenge.rw_ip0002_01 ∧ KF = KF := by
  k_fill
  exact ⟨rfl, rfl⟩

/-- what the stemmer's places hold -/
structure St where
  cur : Str
  c : Int
  lim : Int
  lb : Int
  bra : Int
  ket : Int
  p1 : Option Int

/-- the stemmer's dict holds it -/
noncomputable def DictIs (P : Params) (σ : St) (o : Obj) : Prop := match σ.p1 with
  | none => ∃ κ : Nat → Tok, o = dictOf [⟨PyData.keyHash P (Str.ofString "current"), .str (Str.ofString "current") (κ 0), .str σ.cur (κ 6)⟩, ⟨PyData.keyHash P (Str.ofString "cursor"), .str (Str.ofString "cursor") (κ 1), .int σ.c (κ 7)⟩, ⟨PyData.keyHash P (Str.ofString "limit"), .str (Str.ofString "limit") (κ 2), .int σ.lim (κ 8)⟩, ⟨PyData.keyHash P (Str.ofString "limit_backward"), .str (Str.ofString "limit_backward") (κ 3), .int σ.lb (κ 9)⟩, ⟨PyData.keyHash P (Str.ofString "bra"), .str (Str.ofString "bra") (κ 4), .int σ.bra (κ 10)⟩, ⟨PyData.keyHash P (Str.ofString "ket"), .str (Str.ofString "ket") (κ 5), .int σ.ket (κ 11)⟩] 6
  | some p => ∃ κ : Nat → Tok, o = dictOf [⟨PyData.keyHash P (Str.ofString "current"), .str (Str.ofString "current") (κ 0), .str σ.cur (κ 7)⟩, ⟨PyData.keyHash P (Str.ofString "cursor"), .str (Str.ofString "cursor") (κ 1), .int σ.c (κ 8)⟩, ⟨PyData.keyHash P (Str.ofString "limit"), .str (Str.ofString "limit") (κ 2), .int σ.lim (κ 9)⟩, ⟨PyData.keyHash P (Str.ofString "limit_backward"), .str (Str.ofString "limit_backward") (κ 3), .int σ.lb (κ 10)⟩, ⟨PyData.keyHash P (Str.ofString "bra"), .str (Str.ofString "bra") (κ 4), .int σ.bra (κ 11)⟩, ⟨PyData.keyHash P (Str.ofString "ket"), .str (Str.ofString "ket") (κ 5), .int σ.ket (κ 12)⟩, ⟨PyData.keyHash P (Str.ofString "I_p1"), .str (Str.ofString "I_p1") (κ 6), .int p (κ 13)⟩] 7

theorem kap7 {P : Params} {o : Obj} {cur : Str} {c lim lb bra ket p1 : Int} (h : DictIs P ⟨cur, c, lim, lb, bra, ket, some p1⟩ o) : ∃ κ : Nat → Tok, o = dictOf [⟨PyData.keyHash P (Str.ofString "current"), .str (Str.ofString "current") (κ 0), .str cur (κ 7)⟩, ⟨PyData.keyHash P (Str.ofString "cursor"), .str (Str.ofString "cursor") (κ 1), .int c (κ 8)⟩, ⟨PyData.keyHash P (Str.ofString "limit"), .str (Str.ofString "limit") (κ 2), .int lim (κ 9)⟩, ⟨PyData.keyHash P (Str.ofString "limit_backward"), .str (Str.ofString "limit_backward") (κ 3), .int lb (κ 10)⟩, ⟨PyData.keyHash P (Str.ofString "bra"), .str (Str.ofString "bra") (κ 4), .int bra (κ 11)⟩, ⟨PyData.keyHash P (Str.ofString "ket"), .str (Str.ofString "ket") (κ 5), .int ket (κ 12)⟩, ⟨PyData.keyHash P (Str.ofString "I_p1"), .str (Str.ofString "I_p1") (κ 6), .int p1 (κ 13)⟩] 7 := by
  exact h
theorem dict_some {P : Params} {k1 k2 k3 k4 k5 k6 k7 u1 u2 u3 u4 u5 u6 u7 : Tok} {cur : Str} {c lim lb bra ket p1 : Int} : DictIs P ⟨cur, c, lim, lb, bra, ket, some p1⟩ (dictOf [⟨PyData.keyHash P (Str.ofString "current"), .str (Str.ofString "current") k1, .str cur u1⟩, ⟨PyData.keyHash P (Str.ofString "cursor"), .str (Str.ofString "cursor") k2, .int c u2⟩, ⟨PyData.keyHash P (Str.ofString "limit"), .str (Str.ofString "limit") k3, .int lim u3⟩, ⟨PyData.keyHash P (Str.ofString "limit_backward"), .str (Str.ofString "limit_backward") k4, .int lb u4⟩, ⟨PyData.keyHash P (Str.ofString "bra"), .str (Str.ofString "bra") k5, .int bra u5⟩, ⟨PyData.keyHash P (Str.ofString "ket"), .str (Str.ofString "ket") k6, .int ket u6⟩, ⟨PyData.keyHash P (Str.ofString "I_p1"), .str (Str.ofString "I_p1") k7, .int p1 u7⟩] 7) := ⟨fun i => [k1, k2, k3, k4, k5, k6, k7, u1, u2, u3, u4, u5, u6, u7].getD i 0, rfl⟩
theorem kap6 {P : Params} {o : Obj} {cur : Str} {c lim lb bra ket : Int} (h : DictIs P ⟨cur, c, lim, lb, bra, ket, none⟩ o) : ∃ κ : Nat → Tok, o = dictOf [⟨PyData.keyHash P (Str.ofString "current"), .str (Str.ofString "current") (κ 0), .str cur (κ 6)⟩, ⟨PyData.keyHash P (Str.ofString "cursor"), .str (Str.ofString "cursor") (κ 1), .int c (κ 7)⟩, ⟨PyData.keyHash P (Str.ofString "limit"), .str (Str.ofString "limit") (κ 2), .int lim (κ 8)⟩, ⟨PyData.keyHash P (Str.ofString "limit_backward"), .str (Str.ofString "limit_backward") (κ 3), .int lb (κ 9)⟩, ⟨PyData.keyHash P (Str.ofString "bra"), .str (Str.ofString "bra") (κ 4), .int bra (κ 10)⟩, ⟨PyData.keyHash P (Str.ofString "ket"), .str (Str.ofString "ket") (κ 5), .int ket (κ 11)⟩] 6 := by
  exact h
theorem dict_none {P : Params} {k1 k2 k3 k4 k5 k6 u1 u2 u3 u4 u5 u6 : Tok} {cur : Str} {c lim lb bra ket : Int} : DictIs P ⟨cur, c, lim, lb, bra, ket, none⟩ (dictOf [⟨PyData.keyHash P (Str.ofString "current"), .str (Str.ofString "current") k1, .str cur u1⟩, ⟨PyData.keyHash P (Str.ofString "cursor"), .str (Str.ofString "cursor") k2, .int c u2⟩, ⟨PyData.keyHash P (Str.ofString "limit"), .str (Str.ofString "limit") k3, .int lim u3⟩, ⟨PyData.keyHash P (Str.ofString "limit_backward"), .str (Str.ofString "limit_backward") k4, .int lb u4⟩, ⟨PyData.keyHash P (Str.ofString "bra"), .str (Str.ofString "bra") k5, .int bra u5⟩, ⟨PyData.keyHash P (Str.ofString "ket"), .str (Str.ofString "ket") k6, .int ket u6⟩] 6) := ⟨fun i => [k1, k2, k3, k4, k5, k6, u1, u2, u3, u4, u5, u6].getD i 0, rfl⟩
/-- the dict's first six places stand; the seventh may be there or not -/
structure DictT (P : Params) (p1 : Option Int) (tl : List DictEntry) (nn : Nat) : Prop where
  is : ∀ {k1 k2 k3 k4 k5 k6 u1 u2 u3 u4 u5 u6 : Tok} {cur : Str} {c lim lb bra ket : Int}, DictIs P ⟨cur, c, lim, lb, bra, ket, p1⟩ (dictOf (⟨PyData.keyHash P (Str.ofString "current"), .str (Str.ofString "current") k1, .str cur u1⟩ :: ⟨PyData.keyHash P (Str.ofString "cursor"), .str (Str.ofString "cursor") k2, .int c u2⟩ :: ⟨PyData.keyHash P (Str.ofString "limit"), .str (Str.ofString "limit") k3, .int lim u3⟩ :: ⟨PyData.keyHash P (Str.ofString "limit_backward"), .str (Str.ofString "limit_backward") k4, .int lb u4⟩ :: ⟨PyData.keyHash P (Str.ofString "bra"), .str (Str.ofString "bra") k5, .int bra u5⟩ :: ⟨PyData.keyHash P (Str.ofString "ket"), .str (Str.ofString "ket") k6, .int ket u6⟩ :: tl) nn)
  few : tl.length ≤ 1
  seventh : tl = [] ∨ ∃ h k v, tl = [⟨h, .str (Str.ofString "I_p1") k, v⟩]
theorem dict_tail {P : Params} {o : Obj} {cur : Str} {c lim lb bra ket : Int} {p1 : Option Int} (h : DictIs P ⟨cur, c, lim, lb, bra, ket, p1⟩ o) :
    ∃ (κ : Nat → Tok) (tl : List DictEntry) (nn : Nat), o = dictOf (⟨PyData.keyHash P (Str.ofString "current"), .str (Str.ofString "current") (κ 0), .str cur (κ 6)⟩ :: ⟨PyData.keyHash P (Str.ofString "cursor"), .str (Str.ofString "cursor") (κ 1), .int c (κ 7)⟩ :: ⟨PyData.keyHash P (Str.ofString "limit"), .str (Str.ofString "limit") (κ 2), .int lim (κ 8)⟩ :: ⟨PyData.keyHash P (Str.ofString "limit_backward"), .str (Str.ofString "limit_backward") (κ 3), .int lb (κ 9)⟩ :: ⟨PyData.keyHash P (Str.ofString "bra"), .str (Str.ofString "bra") (κ 4), .int bra (κ 10)⟩ :: ⟨PyData.keyHash P (Str.ofString "ket"), .str (Str.ofString "ket") (κ 5), .int ket (κ 11)⟩ :: tl) nn ∧ DictT P p1 tl nn := by
  cases p1 with
  | none =>
    obtain ⟨κ, rfl⟩ := kap6 h
    exact ⟨κ, [], 6, rfl, dict_none, by decide, .inl rfl⟩
  | some p1 =>
    obtain ⟨κ, rfl⟩ := kap7 h
    exact ⟨fun i => κ (if i < 6 then i else i + 1), [⟨PyData.keyHash P (Str.ofString "I_p1"), .str (Str.ofString "I_p1") (κ 6), .int p1 (κ 13)⟩], 7, rfl, dict_some, Nat.le_refl _, .inr ⟨_, _, _, rfl⟩⟩
theorem DictT.none {P : Params} {p1 : Option Int} {tl : List DictEntry} {nn : Nat} {name : Str} {k1 k2 k3 k4 k5 k6 u1 u2 u3 u4 u5 u6 : Tok} {cur : Str} {c lim lb bra ket : Int} (hT : DictT P p1 tl nn)
    (h0 : getL name (⟨PyData.keyHash P (Str.ofString "current"), .str (Str.ofString "current") k1, .str cur u1⟩ :: ⟨PyData.keyHash P (Str.ofString "cursor"), .str (Str.ofString "cursor") k2, .int c u2⟩ :: ⟨PyData.keyHash P (Str.ofString "limit"), .str (Str.ofString "limit") k3, .int lim u3⟩ :: ⟨PyData.keyHash P (Str.ofString "limit_backward"), .str (Str.ofString "limit_backward") k4, .int lb u4⟩ :: ⟨PyData.keyHash P (Str.ofString "bra"), .str (Str.ofString "bra") k5, .int bra u5⟩ :: ⟨PyData.keyHash P (Str.ofString "ket"), .str (Str.ofString "ket") k6, .int ket u6⟩ :: []) = some none) (h1 : ∀ h k v, getL name (⟨PyData.keyHash P (Str.ofString "current"), .str (Str.ofString "current") k1, .str cur u1⟩ :: ⟨PyData.keyHash P (Str.ofString "cursor"), .str (Str.ofString "cursor") k2, .int c u2⟩ :: ⟨PyData.keyHash P (Str.ofString "limit"), .str (Str.ofString "limit") k3, .int lim u3⟩ :: ⟨PyData.keyHash P (Str.ofString "limit_backward"), .str (Str.ofString "limit_backward") k4, .int lb u4⟩ :: ⟨PyData.keyHash P (Str.ofString "bra"), .str (Str.ofString "bra") k5, .int bra u5⟩ :: ⟨PyData.keyHash P (Str.ofString "ket"), .str (Str.ofString "ket") k6, .int ket u6⟩ :: [⟨h, .str (Str.ofString "I_p1") k, v⟩]) = some none) : getL name (⟨PyData.keyHash P (Str.ofString "current"), .str (Str.ofString "current") k1, .str cur u1⟩ :: ⟨PyData.keyHash P (Str.ofString "cursor"), .str (Str.ofString "cursor") k2, .int c u2⟩ :: ⟨PyData.keyHash P (Str.ofString "limit"), .str (Str.ofString "limit") k3, .int lim u3⟩ :: ⟨PyData.keyHash P (Str.ofString "limit_backward"), .str (Str.ofString "limit_backward") k4, .int lb u4⟩ :: ⟨PyData.keyHash P (Str.ofString "bra"), .str (Str.ofString "bra") k5, .int bra u5⟩ :: ⟨PyData.keyHash P (Str.ofString "ket"), .str (Str.ofString "ket") k6, .int ket u6⟩ :: tl) = some none := by
  rcases hT.seventh with rfl | ⟨h, k, v, rfl⟩
  · exact h0
  · exact h1 h k v
/-- a method's contract: D frames and U places of C stack are enough -/
structure Meth (w : World) (D U : Nat) (f : Addr) (args : List Value) (pre : St → Prop) (post : St → Value → St → Prop) : Prop where
  run : ∀ {mean : ExcName → Option Value} {mg mb : Str → Option Value} {A₀ A : Around} {base h₀ : Heap} {env : Env} {outer : List Env} {L : Addr} {m : Str → Option Value} {s : Shared} {x dx : Addr} {o : Obj} {σ : St} {rest : List (Addr × Obj)} {Q E : Value → Shared → Prop},
    Below A₀ base outer h₀ → Fr h₀ L s.heap m → (KF w.params).In h₀ → News h₀ L s.heap ((x, instObj 494 dx) :: (dx, o) :: rest) → Top vq (looseW vq vloose) mean mg mb h₀ → (KF w.params).In base → Top vq (looseW vq vloose) mean mg mb base →
    (∀ p ∈ rest, p.1 ≠ dx) → x ≠ dx → A.frames = some (env :: outer) → env.frame = some L → env.scope.kind = .function → A.depth + D < recursionLimit → A.units + U < cLine → DictIs w.params σ o → pre σ →
    (∀ r σ' o' h' tk', DictIs w.params σ' o' → post σ r σ' → Fr h₀ L h' m → News h₀ L h' ((x, instObj 494 dx) :: (dx, o') :: rest) → Q r { s with heap := h', toks := tk' }) →
    wpAny (model pw w) A (call (.ref f) (.ref x :: args)) Q E s

theorem handled_deeper {A : Around} {e : Env} (h : A.handled = none) : (A.deeper e).handled = none := h
theorem news_of_mem {h₀ h : Heap} {L : Addr} {l l' : List (Addr × Obj)} (N : News h₀ L h l) (hs : ∀ p ∈ l', p ∈ l) : News h₀ L h l' := fun p hp => N p (hs p hp)

/-- the contract where the ledger is laid otherwise -/
theorem Meth.use {w : World} {D U : Nat} {f : Addr} {args : List Value} {pre : St → Prop} {post : St → Value → St → Prop} (S : Meth w D U f args pre post)
    {mean : ExcName → Option Value} {mg mb : Str → Option Value} {A₀ A : Around} {base h₀ : Heap} {env : Env} {outer : List Env} {L : Addr} {m : Str → Option Value} {s : Shared} {x dx : Addr} {o : Obj} {σ : St} {news : List (Addr × Obj)} {g : Obj → List (Addr × Obj)} {Q E : Value → Shared → Prop}
    (B : Below A₀ base outer h₀) (F : Fr h₀ L s.heap m) (X : (KF w.params).In h₀) (N : News h₀ L s.heap news) (T : Top vq (looseW vq vloose) mean mg mb h₀) (XB : (KF w.params).In base) (TB : Top vq (looseW vq vloose) mean mg mb base)
    (hx : (x, instObj 494 dx) ∈ news) (Up : UpdF dx o news g) (hA : A.frames = some (env :: outer)) (hf : env.frame = some L) (hk : env.scope.kind = .function) (hd : A.depth + D < recursionLimit) (hu : A.units + U < cLine) (hσ : DictIs w.params σ o) (hp : pre σ)
    (hQ : ∀ r σ' o' h' tk', DictIs w.params σ' o' → post σ r σ' → Fr h₀ L h' m → News h₀ L h' (g o') → Q r { s with heap := h', toks := tk' }) :
    wpAny (model pw w) A (call (.ref f) (.ref x :: args)) Q E s := by
  obtain ⟨pr, po, rfl, hg, a, b⟩ := Up.split
  have hdict : ∃ es n, o = dictOf es n := by
    unfold DictIs at hσ
    split at hσ
    · obtain ⟨κ, rfl⟩ := hσ; exact ⟨_, _, rfl⟩
    · obtain ⟨κ, rfl⟩ := hσ; exact ⟨_, _, rfl⟩
  have hxd : x ≠ dx := by
    rintro rfl
    have e1 := (N _ hx).1
    have e2 := (N (x, o) (by simp)).1
    rw [e1] at e2
    obtain ⟨es, n, rfl⟩ := hdict
    cases e2
  refine S.run (rest := pr ++ po) B F X (news_of_mem N fun p hp => ?_) T XB TB (fun p hp => ?_) hxd hA hf hk hd hu hσ hp (fun r σ' o' h' tk' d' p' F' N' => hQ r σ' o' h' tk' d' p' F' ?_)
  · rcases List.mem_cons.mp hp with rfl | hp
    · exact hx
    · rcases List.mem_cons.mp hp with rfl | hp
      · simp
      · rcases List.mem_append.mp hp with h | h <;> simp [h]
  · rcases List.mem_append.mp hp with h | h
    · exact a p h
    · exact b p h
  · rw [hg]
    refine news_of_mem N' fun p hp => ?_
    rcases List.mem_append.mp hp with h | h
    · simp [h]
    · rcases List.mem_cons.mp h with rfl | h
      · simp
      · simp [h]

theorem Meth.use7 {w : World} {D U : Nat} {f : Addr} {args : List Value} {pre : St → Prop} {post : St → Value → St → Prop} (S : Meth w D U f args pre post)
    {mean : ExcName → Option Value} {mg mb : Str → Option Value} {A₀ A : Around} {base h₀ : Heap} {env : Env} {outer : List Env} {L : Addr} {m : Str → Option Value} {s : Shared} {x dx : Addr} {news : List (Addr × Obj)} {g : Obj → List (Addr × Obj)} {Q E : Value → Shared → Prop}
    {k1 k2 k3 k4 k5 k6 k7 u1 u2 u3 u4 u5 u6 u7 : Tok} {cur : Str} {c lim lb bra ket p1 : Int}
    (B : Below A₀ base outer h₀) (F : Fr h₀ L s.heap m) (X : (KF w.params).In h₀) (N : News h₀ L s.heap news) (T : Top vq (looseW vq vloose) mean mg mb h₀) (XB : (KF w.params).In base) (TB : Top vq (looseW vq vloose) mean mg mb base)
    (hx : (x, instObj 494 dx) ∈ news) (Up : UpdF dx (dictOf [⟨PyData.keyHash w.params (Str.ofString "current"), .str (Str.ofString "current") k1, .str cur u1⟩, ⟨PyData.keyHash w.params (Str.ofString "cursor"), .str (Str.ofString "cursor") k2, .int c u2⟩, ⟨PyData.keyHash w.params (Str.ofString "limit"), .str (Str.ofString "limit") k3, .int lim u3⟩, ⟨PyData.keyHash w.params (Str.ofString "limit_backward"), .str (Str.ofString "limit_backward") k4, .int lb u4⟩, ⟨PyData.keyHash w.params (Str.ofString "bra"), .str (Str.ofString "bra") k5, .int bra u5⟩, ⟨PyData.keyHash w.params (Str.ofString "ket"), .str (Str.ofString "ket") k6, .int ket u6⟩, ⟨PyData.keyHash w.params (Str.ofString "I_p1"), .str (Str.ofString "I_p1") k7, .int p1 u7⟩] 7) news g) (hA : A.frames = some (env :: outer)) (hf : env.frame = some L) (hk : env.scope.kind = .function) (hd : A.depth + D < recursionLimit) (hu : A.units + U < cLine) (hp : pre ⟨cur, c, lim, lb, bra, ket, some p1⟩)
    (hQ : ∀ r σ' o' h' tk', DictIs w.params σ' o' → post ⟨cur, c, lim, lb, bra, ket, some p1⟩ r σ' → Fr h₀ L h' m → News h₀ L h' (g o') → Q r { s with heap := h', toks := tk' }) :
    wpAny (model pw w) A (call (.ref f) (.ref x :: args)) Q E s := S.use (σ := ⟨cur, c, lim, lb, bra, ket, some p1⟩) B F X N T XB TB hx Up hA hf hk hd hu dict_some hp hQ

/-- how a method's contract is shown where the dict has its seven places -/
theorem Meth.of7 {w : World} {D U : Nat} {f : Addr} {args : List Value} {pre : St → Prop} {post : St → Value → St → Prop} (h1 : ∀ σ, pre σ → σ.p1.isSome = true)
    (h : ∀ (mean : ExcName → Option Value) (mg mb : Str → Option Value) (A₀ A : Around) (base h₀ : Heap) (env : Env) (outer : List Env) (L : Addr) (m : Str → Option Value) (sh : Heap) (sg : Array GenState) (sd : Drawn) (st : Tok) (so : OsState) (x dx : Addr) (rest : List (Addr × Obj)) (Q E : Value → Shared → Prop) (zk : Nat → Tok) (cur : Str) (c lim lb bra ket p1 : Int),
      Below A₀ base outer h₀ → Fr h₀ L sh m → (KF w.params).In h₀ → News h₀ L sh ((x, instObj 494 dx) :: (dx, dictOf [⟨PyData.keyHash w.params (Str.ofString "current"), .str (Str.ofString "current") (zk 0), .str cur (zk 7)⟩, ⟨PyData.keyHash w.params (Str.ofString "cursor"), .str (Str.ofString "cursor") (zk 1), .int c (zk 8)⟩, ⟨PyData.keyHash w.params (Str.ofString "limit"), .str (Str.ofString "limit") (zk 2), .int lim (zk 9)⟩, ⟨PyData.keyHash w.params (Str.ofString "limit_backward"), .str (Str.ofString "limit_backward") (zk 3), .int lb (zk 10)⟩, ⟨PyData.keyHash w.params (Str.ofString "bra"), .str (Str.ofString "bra") (zk 4), .int bra (zk 11)⟩, ⟨PyData.keyHash w.params (Str.ofString "ket"), .str (Str.ofString "ket") (zk 5), .int ket (zk 12)⟩, ⟨PyData.keyHash w.params (Str.ofString "I_p1"), .str (Str.ofString "I_p1") (zk 6), .int p1 (zk 13)⟩] 7) :: rest) → Top vq (looseW vq vloose) mean mg mb h₀ → (KF w.params).In base → Top vq (looseW vq vloose) mean mg mb base → 
      (∀ p ∈ rest, p.1 ≠ dx) → x ≠ dx → A.frames = some (env :: outer) → env.frame = some L → env.scope.kind = .function → A.depth + D < recursionLimit → A.units + U < cLine → pre ⟨cur, c, lim, lb, bra, ket, some p1⟩ →
      (∀ r σ' o' h' tk', DictIs w.params σ' o' → post ⟨cur, c, lim, lb, bra, ket, some p1⟩ r σ' → Fr h₀ L h' m → News h₀ L h' ((x, instObj 494 dx) :: (dx, o') :: rest) → Q r ⟨h', sg, sd, tk', so⟩) → wpAny (model pw w) A (call (.ref f) (.ref x :: args)) Q E ⟨sh, sg, sd, st, so⟩) : Meth w D U f args pre post := by
  constructor
  intro mean mg mb A₀ A base h₀ env outer L m s x dx o σ rest Q E B F X N T XB TB hrest hxd hA hf hk hd hu hσ hp hQ
  obtain ⟨cur, c, lim, lb, bra, ket, p1⟩ := σ
  obtain ⟨p1, rfl⟩ := Option.isSome_iff_exists.mp (h1 _ hp)
  obtain ⟨zk, rfl⟩ := kap7 hσ
  exact h mean mg mb A₀ A base h₀ env outer L m s.heap s.gens s.drawn s.toks s.os x dx rest Q E zk cur c lim lb bra ket p1 B F X N T XB TB hrest hxd hA hf hk hd hu hp hQ
end Mine
namespace Mine
section
open PySem PySem.W PySem.Calls PyProof.Rows PySem.Spec
local macro_rules | `(tactic| k_all) => `(tactic| first | with_reducible assumption | assumption)
local macro_rules | `(tactic| walk_at "hh") => `(tactic| (first | with_reducible assumption | exact handled_deeper (by with_reducible assumption) | rfl | assumption))
local macro_rules | `(tactic| walk_at "T0") => `(tactic| (first | with_reducible assumption | exact KtsTurn.refl | assumption))
set_option hygiene false in
local macro_rules | `(tactic| walk_at "eC") => `(tactic| ((case zk6 | zk7 => k_is); (case zk8 => omega); (case zk9 => exact BindsTo.of_eq rfl); (case zc5 => decide); (case zkB => exact locs rfl); (case zc2 | zc3 | zc4 => exact rfl); k_whole))
set_option hygiene false in
local macro_rules | `(tactic| walk_at "eD") => `(tactic| (refine' code_def ?zk1 ?zk2 ?zk3 ?zk4 ?zk5 ?zkA ?zkF ?zkK ?zk6 ?zk7 ?zk8 ?zk9 ?zkB ?_ ?zc2 ?zc3 ?zc4 ?zc5; (case zkA | zkF | zkK => k_all); (case zk1 | zk2 | zk3 | zk4 | zk5 => k_asm); walk_at "eC"))
local macro_rules | `(tactic| walk_at "m_enter") => `(tactic| (refine wpAny_call ?_; k_dflt (walk_at "eD"; intro _ _ _ _ _ _ _ _ _; (try dsimp only); (try k_fold))))
-- W1
section
open PySem PySem.W PySem.Calls PyProof.Rows PySem.Spec


theorem put6_0 {P : Params} {hs : Int} {key v v0 : Value} {nn : Nat} {k1 k2 k3 k4 k5 k6 u2 u3 u4 u5 u6 : Tok} {c lim lb bra ket : Int} {tl : List DictEntry} : (putL (Str.ofString "current") hs key v (⟨PyData.keyHash P (Str.ofString "current"), .str (Str.ofString "current") k1, v0⟩ :: ⟨PyData.keyHash P (Str.ofString "cursor"), .str (Str.ofString "cursor") k2, .int c u2⟩ :: ⟨PyData.keyHash P (Str.ofString "limit"), .str (Str.ofString "limit") k3, .int lim u3⟩ :: ⟨PyData.keyHash P (Str.ofString "limit_backward"), .str (Str.ofString "limit_backward") k4, .int lb u4⟩ :: ⟨PyData.keyHash P (Str.ofString "bra"), .str (Str.ofString "bra") k5, .int bra u5⟩ :: ⟨PyData.keyHash P (Str.ofString "ket"), .str (Str.ofString "ket") k6, .int ket u6⟩ :: tl), putN (Str.ofString "current") (⟨PyData.keyHash P (Str.ofString "current"), .str (Str.ofString "current") k1, v0⟩ :: ⟨PyData.keyHash P (Str.ofString "cursor"), .str (Str.ofString "cursor") k2, .int c u2⟩ :: ⟨PyData.keyHash P (Str.ofString "limit"), .str (Str.ofString "limit") k3, .int lim u3⟩ :: ⟨PyData.keyHash P (Str.ofString "limit_backward"), .str (Str.ofString "limit_backward") k4, .int lb u4⟩ :: ⟨PyData.keyHash P (Str.ofString "bra"), .str (Str.ofString "bra") k5, .int bra u5⟩ :: ⟨PyData.keyHash P (Str.ofString "ket"), .str (Str.ofString "ket") k6, .int ket u6⟩ :: tl) nn) = ((⟨PyData.keyHash P (Str.ofString "current"), .str (Str.ofString "current") k1, v⟩ :: ⟨PyData.keyHash P (Str.ofString "cursor"), .str (Str.ofString "cursor") k2, .int c u2⟩ :: ⟨PyData.keyHash P (Str.ofString "limit"), .str (Str.ofString "limit") k3, .int lim u3⟩ :: ⟨PyData.keyHash P (Str.ofString "limit_backward"), .str (Str.ofString "limit_backward") k4, .int lb u4⟩ :: ⟨PyData.keyHash P (Str.ofString "bra"), .str (Str.ofString "bra") k5, .int bra u5⟩ :: ⟨PyData.keyHash P (Str.ofString "ket"), .str (Str.ofString "ket") k6, .int ket u6⟩ :: tl), nn) := rfl
theorem get6_0 {P : Params} {v0 : Value} {k1 k2 k3 k4 k5 k6 u2 u3 u4 u5 u6 : Tok} {c lim lb bra ket : Int} {tl : List DictEntry} : getL (Str.ofString "current") (⟨PyData.keyHash P (Str.ofString "current"), .str (Str.ofString "current") k1, v0⟩ :: ⟨PyData.keyHash P (Str.ofString "cursor"), .str (Str.ofString "cursor") k2, .int c u2⟩ :: ⟨PyData.keyHash P (Str.ofString "limit"), .str (Str.ofString "limit") k3, .int lim u3⟩ :: ⟨PyData.keyHash P (Str.ofString "limit_backward"), .str (Str.ofString "limit_backward") k4, .int lb u4⟩ :: ⟨PyData.keyHash P (Str.ofString "bra"), .str (Str.ofString "bra") k5, .int bra u5⟩ :: ⟨PyData.keyHash P (Str.ofString "ket"), .str (Str.ofString "ket") k6, .int ket u6⟩ :: tl) = some (some v0) := rfl
theorem put6_1 {P : Params} {hs : Int} {key v v0 : Value} {nn : Nat} {k1 k2 k3 k4 k5 k6 u1 u3 u4 u5 u6 : Tok} {cur : Str} {lim lb bra ket : Int} {tl : List DictEntry} : (putL (Str.ofString "cursor") hs key v (⟨PyData.keyHash P (Str.ofString "current"), .str (Str.ofString "current") k1, .str cur u1⟩ :: ⟨PyData.keyHash P (Str.ofString "cursor"), .str (Str.ofString "cursor") k2, v0⟩ :: ⟨PyData.keyHash P (Str.ofString "limit"), .str (Str.ofString "limit") k3, .int lim u3⟩ :: ⟨PyData.keyHash P (Str.ofString "limit_backward"), .str (Str.ofString "limit_backward") k4, .int lb u4⟩ :: ⟨PyData.keyHash P (Str.ofString "bra"), .str (Str.ofString "bra") k5, .int bra u5⟩ :: ⟨PyData.keyHash P (Str.ofString "ket"), .str (Str.ofString "ket") k6, .int ket u6⟩ :: tl), putN (Str.ofString "cursor") (⟨PyData.keyHash P (Str.ofString "current"), .str (Str.ofString "current") k1, .str cur u1⟩ :: ⟨PyData.keyHash P (Str.ofString "cursor"), .str (Str.ofString "cursor") k2, v0⟩ :: ⟨PyData.keyHash P (Str.ofString "limit"), .str (Str.ofString "limit") k3, .int lim u3⟩ :: ⟨PyData.keyHash P (Str.ofString "limit_backward"), .str (Str.ofString "limit_backward") k4, .int lb u4⟩ :: ⟨PyData.keyHash P (Str.ofString "bra"), .str (Str.ofString "bra") k5, .int bra u5⟩ :: ⟨PyData.keyHash P (Str.ofString "ket"), .str (Str.ofString "ket") k6, .int ket u6⟩ :: tl) nn) = ((⟨PyData.keyHash P (Str.ofString "current"), .str (Str.ofString "current") k1, .str cur u1⟩ :: ⟨PyData.keyHash P (Str.ofString "cursor"), .str (Str.ofString "cursor") k2, v⟩ :: ⟨PyData.keyHash P (Str.ofString "limit"), .str (Str.ofString "limit") k3, .int lim u3⟩ :: ⟨PyData.keyHash P (Str.ofString "limit_backward"), .str (Str.ofString "limit_backward") k4, .int lb u4⟩ :: ⟨PyData.keyHash P (Str.ofString "bra"), .str (Str.ofString "bra") k5, .int bra u5⟩ :: ⟨PyData.keyHash P (Str.ofString "ket"), .str (Str.ofString "ket") k6, .int ket u6⟩ :: tl), nn) := rfl
theorem get6_1 {P : Params} {v0 : Value} {k1 k2 k3 k4 k5 k6 u1 u3 u4 u5 u6 : Tok} {cur : Str} {lim lb bra ket : Int} {tl : List DictEntry} : getL (Str.ofString "cursor") (⟨PyData.keyHash P (Str.ofString "current"), .str (Str.ofString "current") k1, .str cur u1⟩ :: ⟨PyData.keyHash P (Str.ofString "cursor"), .str (Str.ofString "cursor") k2, v0⟩ :: ⟨PyData.keyHash P (Str.ofString "limit"), .str (Str.ofString "limit") k3, .int lim u3⟩ :: ⟨PyData.keyHash P (Str.ofString "limit_backward"), .str (Str.ofString "limit_backward") k4, .int lb u4⟩ :: ⟨PyData.keyHash P (Str.ofString "bra"), .str (Str.ofString "bra") k5, .int bra u5⟩ :: ⟨PyData.keyHash P (Str.ofString "ket"), .str (Str.ofString "ket") k6, .int ket u6⟩ :: tl) = some (some v0) := rfl
theorem put6_2 {P : Params} {hs : Int} {key v v0 : Value} {nn : Nat} {k1 k2 k3 k4 k5 k6 u1 u2 u4 u5 u6 : Tok} {cur : Str} {c lb bra ket : Int} {tl : List DictEntry} : (putL (Str.ofString "limit") hs key v (⟨PyData.keyHash P (Str.ofString "current"), .str (Str.ofString "current") k1, .str cur u1⟩ :: ⟨PyData.keyHash P (Str.ofString "cursor"), .str (Str.ofString "cursor") k2, .int c u2⟩ :: ⟨PyData.keyHash P (Str.ofString "limit"), .str (Str.ofString "limit") k3, v0⟩ :: ⟨PyData.keyHash P (Str.ofString "limit_backward"), .str (Str.ofString "limit_backward") k4, .int lb u4⟩ :: ⟨PyData.keyHash P (Str.ofString "bra"), .str (Str.ofString "bra") k5, .int bra u5⟩ :: ⟨PyData.keyHash P (Str.ofString "ket"), .str (Str.ofString "ket") k6, .int ket u6⟩ :: tl), putN (Str.ofString "limit") (⟨PyData.keyHash P (Str.ofString "current"), .str (Str.ofString "current") k1, .str cur u1⟩ :: ⟨PyData.keyHash P (Str.ofString "cursor"), .str (Str.ofString "cursor") k2, .int c u2⟩ :: ⟨PyData.keyHash P (Str.ofString "limit"), .str (Str.ofString "limit") k3, v0⟩ :: ⟨PyData.keyHash P (Str.ofString "limit_backward"), .str (Str.ofString "limit_backward") k4, .int lb u4⟩ :: ⟨PyData.keyHash P (Str.ofString "bra"), .str (Str.ofString "bra") k5, .int bra u5⟩ :: ⟨PyData.keyHash P (Str.ofString "ket"), .str (Str.ofString "ket") k6, .int ket u6⟩ :: tl) nn) = ((⟨PyData.keyHash P (Str.ofString "current"), .str (Str.ofString "current") k1, .str cur u1⟩ :: ⟨PyData.keyHash P (Str.ofString "cursor"), .str (Str.ofString "cursor") k2, .int c u2⟩ :: ⟨PyData.keyHash P (Str.ofString "limit"), .str (Str.ofString "limit") k3, v⟩ :: ⟨PyData.keyHash P (Str.ofString "limit_backward"), .str (Str.ofString "limit_backward") k4, .int lb u4⟩ :: ⟨PyData.keyHash P (Str.ofString "bra"), .str (Str.ofString "bra") k5, .int bra u5⟩ :: ⟨PyData.keyHash P (Str.ofString "ket"), .str (Str.ofString "ket") k6, .int ket u6⟩ :: tl), nn) := rfl
theorem get6_2 {P : Params} {v0 : Value} {k1 k2 k3 k4 k5 k6 u1 u2 u4 u5 u6 : Tok} {cur : Str} {c lb bra ket : Int} {tl : List DictEntry} : getL (Str.ofString "limit") (⟨PyData.keyHash P (Str.ofString "current"), .str (Str.ofString "current") k1, .str cur u1⟩ :: ⟨PyData.keyHash P (Str.ofString "cursor"), .str (Str.ofString "cursor") k2, .int c u2⟩ :: ⟨PyData.keyHash P (Str.ofString "limit"), .str (Str.ofString "limit") k3, v0⟩ :: ⟨PyData.keyHash P (Str.ofString "limit_backward"), .str (Str.ofString "limit_backward") k4, .int lb u4⟩ :: ⟨PyData.keyHash P (Str.ofString "bra"), .str (Str.ofString "bra") k5, .int bra u5⟩ :: ⟨PyData.keyHash P (Str.ofString "ket"), .str (Str.ofString "ket") k6, .int ket u6⟩ :: tl) = some (some v0) := rfl
theorem put6_3 {P : Params} {hs : Int} {key v v0 : Value} {nn : Nat} {k1 k2 k3 k4 k5 k6 u1 u2 u3 u5 u6 : Tok} {cur : Str} {c lim bra ket : Int} {tl : List DictEntry} : (putL (Str.ofString "limit_backward") hs key v (⟨PyData.keyHash P (Str.ofString "current"), .str (Str.ofString "current") k1, .str cur u1⟩ :: ⟨PyData.keyHash P (Str.ofString "cursor"), .str (Str.ofString "cursor") k2, .int c u2⟩ :: ⟨PyData.keyHash P (Str.ofString "limit"), .str (Str.ofString "limit") k3, .int lim u3⟩ :: ⟨PyData.keyHash P (Str.ofString "limit_backward"), .str (Str.ofString "limit_backward") k4, v0⟩ :: ⟨PyData.keyHash P (Str.ofString "bra"), .str (Str.ofString "bra") k5, .int bra u5⟩ :: ⟨PyData.keyHash P (Str.ofString "ket"), .str (Str.ofString "ket") k6, .int ket u6⟩ :: tl), putN (Str.ofString "limit_backward") (⟨PyData.keyHash P (Str.ofString "current"), .str (Str.ofString "current") k1, .str cur u1⟩ :: ⟨PyData.keyHash P (Str.ofString "cursor"), .str (Str.ofString "cursor") k2, .int c u2⟩ :: ⟨PyData.keyHash P (Str.ofString "limit"), .str (Str.ofString "limit") k3, .int lim u3⟩ :: ⟨PyData.keyHash P (Str.ofString "limit_backward"), .str (Str.ofString "limit_backward") k4, v0⟩ :: ⟨PyData.keyHash P (Str.ofString "bra"), .str (Str.ofString "bra") k5, .int bra u5⟩ :: ⟨PyData.keyHash P (Str.ofString "ket"), .str (Str.ofString "ket") k6, .int ket u6⟩ :: tl) nn) = ((⟨PyData.keyHash P (Str.ofString "current"), .str (Str.ofString "current") k1, .str cur u1⟩ :: ⟨PyData.keyHash P (Str.ofString "cursor"), .str (Str.ofString "cursor") k2, .int c u2⟩ :: ⟨PyData.keyHash P (Str.ofString "limit"), .str (Str.ofString "limit") k3, .int lim u3⟩ :: ⟨PyData.keyHash P (Str.ofString "limit_backward"), .str (Str.ofString "limit_backward") k4, v⟩ :: ⟨PyData.keyHash P (Str.ofString "bra"), .str (Str.ofString "bra") k5, .int bra u5⟩ :: ⟨PyData.keyHash P (Str.ofString "ket"), .str (Str.ofString "ket") k6, .int ket u6⟩ :: tl), nn) := rfl
theorem get6_3 {P : Params} {v0 : Value} {k1 k2 k3 k4 k5 k6 u1 u2 u3 u5 u6 : Tok} {cur : Str} {c lim bra ket : Int} {tl : List DictEntry} : getL (Str.ofString "limit_backward") (⟨PyData.keyHash P (Str.ofString "current"), .str (Str.ofString "current") k1, .str cur u1⟩ :: ⟨PyData.keyHash P (Str.ofString "cursor"), .str (Str.ofString "cursor") k2, .int c u2⟩ :: ⟨PyData.keyHash P (Str.ofString "limit"), .str (Str.ofString "limit") k3, .int lim u3⟩ :: ⟨PyData.keyHash P (Str.ofString "limit_backward"), .str (Str.ofString "limit_backward") k4, v0⟩ :: ⟨PyData.keyHash P (Str.ofString "bra"), .str (Str.ofString "bra") k5, .int bra u5⟩ :: ⟨PyData.keyHash P (Str.ofString "ket"), .str (Str.ofString "ket") k6, .int ket u6⟩ :: tl) = some (some v0) := rfl
theorem put6_4 {P : Params} {hs : Int} {key v v0 : Value} {nn : Nat} {k1 k2 k3 k4 k5 k6 u1 u2 u3 u4 u6 : Tok} {cur : Str} {c lim lb ket : Int} {tl : List DictEntry} : (putL (Str.ofString "bra") hs key v (⟨PyData.keyHash P (Str.ofString "current"), .str (Str.ofString "current") k1, .str cur u1⟩ :: ⟨PyData.keyHash P (Str.ofString "cursor"), .str (Str.ofString "cursor") k2, .int c u2⟩ :: ⟨PyData.keyHash P (Str.ofString "limit"), .str (Str.ofString "limit") k3, .int lim u3⟩ :: ⟨PyData.keyHash P (Str.ofString "limit_backward"), .str (Str.ofString "limit_backward") k4, .int lb u4⟩ :: ⟨PyData.keyHash P (Str.ofString "bra"), .str (Str.ofString "bra") k5, v0⟩ :: ⟨PyData.keyHash P (Str.ofString "ket"), .str (Str.ofString "ket") k6, .int ket u6⟩ :: tl), putN (Str.ofString "bra") (⟨PyData.keyHash P (Str.ofString "current"), .str (Str.ofString "current") k1, .str cur u1⟩ :: ⟨PyData.keyHash P (Str.ofString "cursor"), .str (Str.ofString "cursor") k2, .int c u2⟩ :: ⟨PyData.keyHash P (Str.ofString "limit"), .str (Str.ofString "limit") k3, .int lim u3⟩ :: ⟨PyData.keyHash P (Str.ofString "limit_backward"), .str (Str.ofString "limit_backward") k4, .int lb u4⟩ :: ⟨PyData.keyHash P (Str.ofString "bra"), .str (Str.ofString "bra") k5, v0⟩ :: ⟨PyData.keyHash P (Str.ofString "ket"), .str (Str.ofString "ket") k6, .int ket u6⟩ :: tl) nn) = ((⟨PyData.keyHash P (Str.ofString "current"), .str (Str.ofString "current") k1, .str cur u1⟩ :: ⟨PyData.keyHash P (Str.ofString "cursor"), .str (Str.ofString "cursor") k2, .int c u2⟩ :: ⟨PyData.keyHash P (Str.ofString "limit"), .str (Str.ofString "limit") k3, .int lim u3⟩ :: ⟨PyData.keyHash P (Str.ofString "limit_backward"), .str (Str.ofString "limit_backward") k4, .int lb u4⟩ :: ⟨PyData.keyHash P (Str.ofString "bra"), .str (Str.ofString "bra") k5, v⟩ :: ⟨PyData.keyHash P (Str.ofString "ket"), .str (Str.ofString "ket") k6, .int ket u6⟩ :: tl), nn) := rfl
theorem get6_4 {P : Params} {v0 : Value} {k1 k2 k3 k4 k5 k6 u1 u2 u3 u4 u6 : Tok} {cur : Str} {c lim lb ket : Int} {tl : List DictEntry} : getL (Str.ofString "bra") (⟨PyData.keyHash P (Str.ofString "current"), .str (Str.ofString "current") k1, .str cur u1⟩ :: ⟨PyData.keyHash P (Str.ofString "cursor"), .str (Str.ofString "cursor") k2, .int c u2⟩ :: ⟨PyData.keyHash P (Str.ofString "limit"), .str (Str.ofString "limit") k3, .int lim u3⟩ :: ⟨PyData.keyHash P (Str.ofString "limit_backward"), .str (Str.ofString "limit_backward") k4, .int lb u4⟩ :: ⟨PyData.keyHash P (Str.ofString "bra"), .str (Str.ofString "bra") k5, v0⟩ :: ⟨PyData.keyHash P (Str.ofString "ket"), .str (Str.ofString "ket") k6, .int ket u6⟩ :: tl) = some (some v0) := rfl
theorem put6_5 {P : Params} {hs : Int} {key v v0 : Value} {nn : Nat} {k1 k2 k3 k4 k5 k6 u1 u2 u3 u4 u5 : Tok} {cur : Str} {c lim lb bra : Int} {tl : List DictEntry} : (putL (Str.ofString "ket") hs key v (⟨PyData.keyHash P (Str.ofString "current"), .str (Str.ofString "current") k1, .str cur u1⟩ :: ⟨PyData.keyHash P (Str.ofString "cursor"), .str (Str.ofString "cursor") k2, .int c u2⟩ :: ⟨PyData.keyHash P (Str.ofString "limit"), .str (Str.ofString "limit") k3, .int lim u3⟩ :: ⟨PyData.keyHash P (Str.ofString "limit_backward"), .str (Str.ofString "limit_backward") k4, .int lb u4⟩ :: ⟨PyData.keyHash P (Str.ofString "bra"), .str (Str.ofString "bra") k5, .int bra u5⟩ :: ⟨PyData.keyHash P (Str.ofString "ket"), .str (Str.ofString "ket") k6, v0⟩ :: tl), putN (Str.ofString "ket") (⟨PyData.keyHash P (Str.ofString "current"), .str (Str.ofString "current") k1, .str cur u1⟩ :: ⟨PyData.keyHash P (Str.ofString "cursor"), .str (Str.ofString "cursor") k2, .int c u2⟩ :: ⟨PyData.keyHash P (Str.ofString "limit"), .str (Str.ofString "limit") k3, .int lim u3⟩ :: ⟨PyData.keyHash P (Str.ofString "limit_backward"), .str (Str.ofString "limit_backward") k4, .int lb u4⟩ :: ⟨PyData.keyHash P (Str.ofString "bra"), .str (Str.ofString "bra") k5, .int bra u5⟩ :: ⟨PyData.keyHash P (Str.ofString "ket"), .str (Str.ofString "ket") k6, v0⟩ :: tl) nn) = ((⟨PyData.keyHash P (Str.ofString "current"), .str (Str.ofString "current") k1, .str cur u1⟩ :: ⟨PyData.keyHash P (Str.ofString "cursor"), .str (Str.ofString "cursor") k2, .int c u2⟩ :: ⟨PyData.keyHash P (Str.ofString "limit"), .str (Str.ofString "limit") k3, .int lim u3⟩ :: ⟨PyData.keyHash P (Str.ofString "limit_backward"), .str (Str.ofString "limit_backward") k4, .int lb u4⟩ :: ⟨PyData.keyHash P (Str.ofString "bra"), .str (Str.ofString "bra") k5, .int bra u5⟩ :: ⟨PyData.keyHash P (Str.ofString "ket"), .str (Str.ofString "ket") k6, v⟩ :: tl), nn) := rfl
theorem get6_5 {P : Params} {v0 : Value} {k1 k2 k3 k4 k5 k6 u1 u2 u3 u4 u5 : Tok} {cur : Str} {c lim lb bra : Int} {tl : List DictEntry} : getL (Str.ofString "ket") (⟨PyData.keyHash P (Str.ofString "current"), .str (Str.ofString "current") k1, .str cur u1⟩ :: ⟨PyData.keyHash P (Str.ofString "cursor"), .str (Str.ofString "cursor") k2, .int c u2⟩ :: ⟨PyData.keyHash P (Str.ofString "limit"), .str (Str.ofString "limit") k3, .int lim u3⟩ :: ⟨PyData.keyHash P (Str.ofString "limit_backward"), .str (Str.ofString "limit_backward") k4, .int lb u4⟩ :: ⟨PyData.keyHash P (Str.ofString "bra"), .str (Str.ofString "bra") k5, .int bra u5⟩ :: ⟨PyData.keyHash P (Str.ofString "ket"), .str (Str.ofString "ket") k6, v0⟩ :: tl) = some (some v0) := rfl
set_option hygiene false in
local macro_rules | `(tactic| k_get) => `(tactic| first | exact get6_0 | exact get6_1 | exact get6_2 | exact get6_3 | exact get6_4 | exact get6_5 | exact rfl)
set_option hygiene false in
local macro_rules | `(tactic| k_put) => `(tactic| first | exact put6_0 | exact put6_1 | exact put6_2 | exact put6_3 | exact put6_4 | exact put6_5)
set_option hygiene false in
local macro_rules | `(tactic| walk_at "setAttr ref") => `(tactic| (k_here; k_dflt (refine' set_dict ?k1 ?k2 ?k3 ?k4 ?k5 ?k6 ?k7 ?k8 ?k9 ?k10 ?k11 ?k12 ?k13 ?_; (case k1 | k2 | k3 => k_asm); (case k4 => k_inst); (case k5 => exact rfl); (case k6 | k7 | k8 | k9 => k_is); (case k10 => exact rfl); (case k11 => k_put); (case k12 => k_upd); (case k13 => (have := DictT.few (by assumption); simp only [List.length_cons]; omega)); k_whole); intro h' F' N'; (try k_sweep)))

set_option maxHeartbeats 8000000 in
theorem m_get_current (w : World) : Meth w 2 10 49 [] (fun _ => True) (fun σ r σ' => (∃ t, r = .str σ.cur t) ∧ σ' = σ) := by
  constructor
  intro mean mg mb A₀ A base h₀ env outer L m s x dx o σ rest Q E B F X N T XB TB hrest hxd hA hf hk hd hu hσ hp hQ
  have hxd2 := neN hxd
  obtain ⟨cur, c, lim, lb, bra, ket, p1⟩ := σ
  obtain ⟨sh, sg, sd, st, so⟩ := s
  dsimp only at F N hQ
  obtain ⟨zk, tl, nn, rfl, hT⟩ := dict_tail hσ
  clear hσ
  walk_at "m_enter"
  k_steps
  (refine' hQ _ ⟨cur, c, lim, lb, bra, ket, p1⟩ _ _ _ ?cd ⟨⟨_, rfl⟩, rfl⟩ ?cF ?cN; (case cF => first | with_reducible assumption | assumption); (case cN => first | with_reducible assumption | assumption); (case cd => exact hT.is))

set_option maxHeartbeats 8000000 in
theorem m_set_current (w : World) (v : Str) (t : Tok) (hv : v.length ≤ 1000) : Meth w 2 20 42 [.str v t] (fun _ => True) (fun σ r σ' => r = .none ∧ σ' = ⟨v, 0, v.length, 0, 0, v.length, σ.p1⟩) := by
  constructor
  intro mean mg mb A₀ A base h₀ env outer L m s x dx o σ rest Q E B F X N T XB TB hrest hxd hA hf hk hd hu hσ hp hQ
  have hxd2 := neN hxd
  obtain ⟨cur, c, lim, lb, bra, ket, p1⟩ := σ
  obtain ⟨sh, sg, sd, st, so⟩ := s
  dsimp only at F N hQ
  obtain ⟨zk, tl, nn, rfl, hT⟩ := dict_tail hσ
  clear hσ
  walk_at "m_enter"
  k_steps
  (refine' hQ _ ⟨v, 0, v.length, 0, 0, v.length, p1⟩ _ _ _ ?cd ⟨rfl, rfl⟩ ?cF ?cN; (case cF => first | with_reducible assumption | assumption); (case cN => first | with_reducible assumption | assumption); (case cd => exact hT.is))
end
-- W2
section
open PySem PySem.W PySem.Calls PyProof.Rows PySem.Spec


/-- a set of the class body: what it holds -/
abbrev memOf (xs : List (Nat × Tok)) (x : Str) : Bool := decide (x ∈ xs.map strOf)
noncomputable def SetAt (w : World) (a : Addr) (xs : List (Nat × Tok)) : Prop := ∀ h : Heap, (KF w.params).In h → ∃ n, h.SetOf (strKind pw w) a (memOf xs) n
theorem setAt_of {w : World} {a : Addr} {xs : List (Nat × Tok)} (hl : (KF w.params).lookup a = some (so (setD w.params xs))) (hz : xs.length < 4096) : SetAt w a xs := by
  intro h X
  obtain ⟨es, n, t, g, e⟩ := setD_good w.params xs
  rw [e] at hl
  refine ⟨xs.length, _, es, n, t, X _ _ hl, ⟨rfl, rfl, rfl⟩, rfl, ?_, ?_, ?_, g.fits, ?_⟩
  · intro q hq
    obtain ⟨x, tk, hx, rfl⟩ := g.only q hq
    exact ⟨⟨x, strKind_is pw w x tk, rfl⟩, rfl⟩
  · intro k
    rw [decide_eq_true_eq]
    constructor
    · intro hk
      obtain ⟨q, hq, h2⟩ := g.all k hk
      refine ⟨q, hq, ?_⟩
      obtain ⟨x, tk, hx, rfl⟩ := g.only q hq
      exact h2
    · rintro ⟨q, hq, h2⟩
      obtain ⟨x, tk, hx, rfl⟩ := g.only q hq
      have : x = k := beq_iff_eq.mp h2
      exact this ▸ hx
  · rw [g.size, List.length_map]; exact hz
  · rw [g.size, List.length_map]
theorem set230 (w : World) : SetAt w 230 xs0 := setAt_of (by kernel_rfl) (by decide)
theorem set231 (w : World) : SetAt w 231 xs1 := setAt_of (by kernel_rfl) (by decide)
theorem set232 (w : World) : SetAt w 232 xs2 := setAt_of (by kernel_rfl) (by decide)

theorem in_K {w : World} {A : Around} {E : Value → Shared → Prop} {s : Shared} {a : Addr} {xs : List (Nat × Tok)} {h₀ : Heap} {L : Addr} {m : Str → Option Value} {x : Str} {t : Tok} {Q : Value → Shared → Prop} (S : SetAt w a xs) (F : Fr h₀ L s.heap m) (X : (KF w.params).In h₀)
    {b : Bool} (hm : memOf xs x = b) (h : Q (.bool b) { s with toks := s.toks + 1 }) : wpAny (model pw w) A (compareOp .In (.str x t) (.ref a)) Q E s :=
  let ⟨_, hS⟩ := S s.heap (X.keeps F.keep)
  wpAny_inSet_of (knd := strKind pw w) (strKind_is pw w x t) rfl hS (by rw [hm]; exact h)
theorem notin_K {w : World} {A : Around} {E : Value → Shared → Prop} {s : Shared} {a : Addr} {xs : List (Nat × Tok)} {h₀ : Heap} {L : Addr} {m : Str → Option Value} {x : Str} {t : Tok} {Q : Value → Shared → Prop} (S : SetAt w a xs) (F : Fr h₀ L s.heap m) (X : (KF w.params).In h₀)
    {b : Bool} (hm : memOf xs x = b) (h : Q (.bool (!b)) { s with toks := s.toks + 1 }) : wpAny (model pw w) A (compareOp .NotIn (.str x t) (.ref a)) Q E s :=
  let ⟨_, hS⟩ := S s.heap (X.keeps F.keep)
  wpAny_notInSet_of (knd := strKind pw w) (strKind_is pw w x t) rfl hS (by rw [hm]; exact h)
local macro_rules | `(tactic| walk_at "compareOp In str ref") => `(tactic| (k_here; k_dflt (refine' in_K ?k1 ?k2 ?k3 ?k4 ?_; (case k1 | k4 => k_all); (case k2 | k3 => k_asm); k_whole)))
local macro_rules | `(tactic| walk_at "compareOp NotIn str ref") => `(tactic| (k_here; k_dflt (refine' notin_K ?k1 ?k2 ?k3 ?k4 ?_; (case k1 | k4 => k_all); (case k2 | k3 => k_asm); k_whole)))

/-- in bounds -/
noncomputable def St.ok (σ : St) : Prop := 0 ≤ σ.lb ∧ σ.c ≤ σ.cur.length ∧ σ.cur.length ≤ 1000 ∧ 0 ≤ σ.c

set_option maxHeartbeats 8000000 in
theorem m_in_grouping_b (w : World) (a : Addr) (xs : List (Nat × Tok)) (hS : SetAt w a xs) : Meth w 2 20 77 [.ref a] (fun σ => σ.ok ∧ σ.p1.isSome = true)
    (fun σ r σ' => (r = .bool (decide (σ.lb < σ.c) && memOf xs (Txt.item σ.cur (σ.c - 1))) ∧ σ' = if decide (σ.lb < σ.c) && memOf xs (Txt.item σ.cur (σ.c - 1)) then { σ with c := σ.c - 1 } else σ)) := by
  refine Meth.of7 (fun σ h => by first | exact h.2.1 | exact h.2) ?_
  intro mean mg mb A₀ A base h₀ env outer L m sh sg sd st so x dx rest Q E zk cur c lim lb bra ket p1 B F X N T XB TB hrest hxd hA hf hk hd hu hp hQ
  have hxd2 := neN hxd
  obtain ⟨⟨b1, b2, b3, b4⟩, b5⟩ := hp
  dsimp only at b1 b2 b3 b4 b5
  clear b5
  (try dsimp only at hQ)
  by_cases h1 : c ≤ lb
  · rw [show decide (lb < c) = false from decide_eq_false (by omega)] at hQ
    simp only [Bool.false_and, Bool.false_eq_true, if_false] at hQ
    walk_at "m_enter"
    k_steps
    refine' hQ _ _ _ _ _ ?cd ⟨rfl, rfl⟩ ?cF ?cN
    case cF => assumption
    case cN => assumption
    case cd => exact dict_some
  · rw [show decide (lb < c) = true from decide_eq_true (by omega)] at hQ
    simp only [Bool.true_and] at hQ
    cases h2 : memOf xs (Txt.item cur (c - 1)) with
    | true =>
      simp only [h2, if_true] at hQ
      walk_at "m_enter"
      k_steps
      refine' hQ _ _ _ _ _ ?cd ⟨rfl, rfl⟩ ?cF ?cN
      case cF => assumption
      case cN => assumption
      case cd => exact dict_some
    | false =>
      simp only [h2, Bool.false_eq_true, if_false] at hQ
      walk_at "m_enter"
      k_steps
      refine' hQ _ _ _ _ _ ?cd ⟨rfl, rfl⟩ ?cF ?cN
      case cF => assumption
      case cN => assumption
      case cd => exact dict_some
end
section
open PySem PySem.W PySem.Calls PyProof.Rows PySem.Spec
set_option hygiene false in
local macro_rules | `(tactic| walk_at "compareOp In str ref") => `(tactic| (k_here; k_dflt (refine' in_K ?zk1 ?zk2 ?zk3 ?zk4 ?_; (case zk1 | zk4 => k_all); (case zk2 | zk3 => k_asm); k_whole)))
set_option hygiene false in
local macro_rules | `(tactic| walk_at "compareOp NotIn str ref") => `(tactic| (k_here; k_dflt (refine' notin_K ?zk1 ?zk2 ?zk3 ?zk4 ?_; (case zk1 | zk4 => k_all); (case zk2 | zk3 => k_asm); k_whole)))
local macro_rules | `(tactic| walk_at "subscriptTail Name Attribute str int") => `(tactic| (refine item_str (fitsSsize_of (N := 9223372036854775808) (by omega) (by omega) (Int.le_refl _)) (by omega) (by omega) ?_; intro _))
-- W3
section
open PySem PySem.W PySem.Calls PyProof.Rows PySem.Spec


set_option maxHeartbeats 8000000 in
theorem m_out_grouping_b (w : World) (a : Addr) (xs : List (Nat × Tok)) (hS : SetAt w a xs) : Meth w 2 20 105 [.ref a] (fun σ => σ.ok ∧ σ.p1.isSome = true)
    (fun σ r σ' => (r = .bool (decide (σ.lb < σ.c) && !memOf xs (Txt.item σ.cur (σ.c - 1))) ∧ σ' = if decide (σ.lb < σ.c) && !memOf xs (Txt.item σ.cur (σ.c - 1)) then { σ with c := σ.c - 1 } else σ)) := by
  refine Meth.of7 (fun σ h => by first | exact h.2.1 | exact h.2) ?_
  intro mean mg mb A₀ A base h₀ env outer L m sh sg sd st so x dx rest Q E zk cur c lim lb bra ket p1 B F X N T XB TB hrest hxd hA hf hk hd hu hp hQ
  have hxd2 := neN hxd
  obtain ⟨⟨b1, b2, b3, b4⟩, b5⟩ := hp
  dsimp only at b1 b2 b3 b4 b5
  clear b5
  (try dsimp only at hQ)
  by_cases h1 : c ≤ lb
  · rw [show decide (lb < c) = false from decide_eq_false (by omega)] at hQ
    simp only [Bool.false_and, Bool.false_eq_true, if_false] at hQ
    walk_at "m_enter"
    k_steps
    refine' hQ _ _ _ _ _ ?cd ⟨rfl, rfl⟩ ?cF ?cN
    case cF => assumption
    case cN => assumption
    case cd => exact dict_some
  · rw [show decide (lb < c) = true from decide_eq_true (by omega)] at hQ
    simp only [Bool.true_and] at hQ
    cases h2 : memOf xs (Txt.item cur (c - 1)) with
    | true =>
      simp only [h2, Bool.not_true, Bool.false_eq_true, if_false] at hQ
      walk_at "m_enter"
      k_steps
      refine' hQ _ _ _ _ _ ?cd ⟨rfl, rfl⟩ ?cF ?cN
      case cF => assumption
      case cN => assumption
      case cd => exact dict_some
    | false =>
      simp only [h2, Bool.not_false, if_true] at hQ
      walk_at "m_enter"
      k_steps
      refine' hQ _ _ _ _ _ ?cd ⟨rfl, rfl⟩ ?cF ?cN
      case cF => assumption
      case cN => assumption
      case cd => exact dict_some

set_option maxHeartbeats 8000000 in
theorem m_eq_s_b (w : World) (t : Tok) : Meth w 2 20 126 [.str (Str.ofString "et") t] (fun σ => σ.ok ∧ σ.p1.isSome = true)
    (fun σ r σ' => (r = .bool (Txt.endswith (Txt.slice σ.cur (some σ.lb) (some σ.c)) (Str.ofString "et")) ∧ σ' = if Txt.endswith (Txt.slice σ.cur (some σ.lb) (some σ.c)) (Str.ofString "et") = true then { σ with c := σ.c - 2 } else σ)) := by
  refine Meth.of7 (fun σ h => by first | exact h.2.1 | exact h.2) ?_
  intro mean mg mb A₀ A base h₀ env outer L m sh sg sd st so x dx rest Q E zk cur c lim lb bra ket p1 B F X N T XB TB hrest hxd hA hf hk hd hu hp hQ
  have hxd2 := neN hxd
  obtain ⟨⟨b1, b2, b3, b4⟩, b5⟩ := hp
  dsimp only at b1 b2 b3 b4 b5
  clear b5
  (try dsimp only at hQ)
  walk_at "m_enter"
  k_steps
  · rename (Txt.endswith _ _ = _) => he
    simp only [he, if_true] at hQ
    refine' hQ _ _ _ _ _ ?cd ⟨rfl, rfl⟩ ?cF ?cN
    case cF => assumption
    case cN => assumption
    case cd => exact dict_some
  · rename (Txt.endswith _ _ = _) => he
    simp only [he, Bool.false_eq_true, if_false] at hQ
    refine' hQ _ _ _ _ _ ?cd ⟨rfl, rfl⟩ ?cF ?cN
    case cF => assumption
    case cN => assumption
    case cd => exact dict_some
end
-- W4
section
open PySem PySem.W PySem.Calls PyProof.Rows PySem.Spec


@[irreducible] noncomputable def Stop (P : Prop) : Prop := P
theorem stop_at {P : Prop} (h : Stop P) : P := by unfold Stop at h; exact h
local macro_rules | `(tactic| walk_at "exec While Compare cons nil") => `(tactic| (k_here; refine stop_at ?_))
local macro_rules | `(tactic| walk_at "exec While Constant cons nil") => `(tactic| (k_here; refine stop_at ?_))
theorem while_rule {w : World} {A : Around} {E : Value → Shared → Prop} {s : Shared} {env : Env} {test : PySem.Expr} {body : List Stmt} {pos : Pos} {Q : Flow → Shared → Prop} (I : Nat → Shared → Prop) (n : Nat) (h : I n s)
    (turn : ∀ n s, I n s → wpAny (model pw w) A (isTrue test env (eval test env)) (fun b s₂ => if b = true then wpAny (model pw w) A (execs body env) (fun f s₃ => match f with
        | .next | .cont => Stop (∃ m, m < n ∧ I m s₃)
        | .brk => Q .next s₃
        | .ret v => Q (.ret v) s₃) (fun _ _ => False) s₂ else Q .next s₂) (fun _ _ => False) s) :
    wpAny (model pw w) A (exec (.While test body [] pos) env) Q E s := by
  refine wpAny_While (codeAny_whileLoop I (fun n s' hI => ?_) n h)
  refine wpAny_mono (turn n s' hI) (fun b s₂ h₂ => ?_) (fun _ _ x => x.elim)
  cases b with
  | true =>
    simp only [if_true] at h₂ ⊢
    exact wpAny_mono h₂ (fun f s₃ h₃ => by cases f <;> first | exact h₃ | exact stop_at h₃) (fun _ _ x => x.elim)
  | false =>
    simp only [Bool.false_eq_true, if_false] at h₂ ⊢
    exact wpAny_execs_nil h₂

/-- in the loop of go_out and go_in -/
inductive Go4 (w : World) (x dx a : Addr) (rest : List (Addr × Obj)) (sg : Array GenState) (sd : Drawn) (so : OsState) (zk : Nat → Tok) (cur : Str) (c lim lb bra ket p1 : Int) (xs : List (Nat × Tok)) (v : Bool) (g1 : Heap) (L1 : Addr) (n : Nat) (s' : Shared) : Prop
  | mk (h₁ : Heap) (tk₁ : Tok) (cc : Int) (t2 : Tok) (e : s' = ⟨h₁, sg, sd, tk₁, so⟩) (F : Fr g1 L1 h₁ (fun y => List.lookup y [(Str.ofString "s", .ref a), (Str.ofString "self", .ref x)])) (N : News g1 L1 h₁ ((x, instObj 494 dx) :: (dx, dictOf [⟨PyData.keyHash w.params (Str.ofString "current"), .str (Str.ofString "current") (zk 0), .str cur (zk 7)⟩, ⟨PyData.keyHash w.params (Str.ofString "cursor"), .str (Str.ofString "cursor") (zk 1), .int cc t2⟩, ⟨PyData.keyHash w.params (Str.ofString "limit"), .str (Str.ofString "limit") (zk 2), .int lim (zk 9)⟩, ⟨PyData.keyHash w.params (Str.ofString "limit_backward"), .str (Str.ofString "limit_backward") (zk 3), .int lb (zk 10)⟩, ⟨PyData.keyHash w.params (Str.ofString "bra"), .str (Str.ofString "bra") (zk 4), .int bra (zk 11)⟩, ⟨PyData.keyHash w.params (Str.ofString "ket"), .str (Str.ofString "ket") (zk 5), .int ket (zk 12)⟩, ⟨PyData.keyHash w.params (Str.ofString "I_p1"), .str (Str.ofString "I_p1") (zk 6), .int p1 (zk 13)⟩] 7) :: rest))
    (hc1 : c ≤ cc) (hc2 : cc ≤ lim) (hc3 : ∀ j, c ≤ j → j < cc → memOf xs (Txt.item cur j) = v) (e2 : n = (lim - cc).toNat)
set_option maxHeartbeats 8000000 in
theorem m_go_out_grouping (w : World) (a : Addr) (xs : List (Nat × Tok)) (hS : SetAt w a xs) : Meth w 2 20 98 [.ref a] (fun σ => σ.ok ∧ σ.p1.isSome = true ∧ σ.c ≤ σ.lim ∧ σ.lim = σ.cur.length)
    (fun σ r σ' => ∃ cc, σ' = { σ with c := cc } ∧ σ.c ≤ cc ∧ cc ≤ σ.lim ∧ (∀ j, σ.c ≤ j → j < cc → memOf xs (Txt.item σ.cur j) = false) ∧ ((cc < σ.lim ∧ memOf xs (Txt.item σ.cur cc) = true ∧ r = .bool true) ∨ (cc = σ.lim ∧ r = .bool false))) := by
  refine Meth.of7 (fun σ h => by first | exact h.2.1 | exact h.2) ?_
  intro mean mg mb A₀ A base h₀ env outer L m sh sg sd st so x dx rest Q E zk cur c lim lb bra ket p1 B F X N T XB TB hrest hxd hA hf hk hd hu hp hQ
  have hxd2 := neN hxd
  obtain ⟨⟨b1, b2, b3, b4⟩, b5, b6, b7⟩ := hp
  dsimp only at b1 b2 b3 b4 b5 b6 b7
  clear b5
  (try dsimp only at hQ)
  walk_at "m_enter"
  k_steps
  rename Fr _ _ _ _ => F1
  rename News _ _ _ _ => N1
  unfold Stop
  refine while_rule (fun n s' => Go4 w x dx a rest sg sd so zk cur c lim lb bra ket p1 xs false _ _ n s') (lim - c).toNat ⟨_, _, c, _, rfl, F1, N1, Int.le_refl c, b6, fun j h1 h2 => absurd h1 (by omega), rfl⟩ ?_
  clear F1 N1
  rintro n s' ⟨h₁, tk₁, cc, t2, rfl, F2, N2, hc1, hc2, hc3, rfl⟩
  by_cases h1 : cc < lim
  · have hb : cc < cur.length := by omega
    cases h2 : memOf xs (Txt.item cur cc) with
    | true =>
      k_steps
      refine' hQ _ _ _ _ _ ?cd ⟨cc, rfl, hc1, hc2, hc3, Or.inl ⟨h1, h2, rfl⟩⟩ ?cF ?cN
      case cF => assumption
      case cN => assumption
      case cd => exact dict_some
    | false =>
      k_steps
      unfold Stop
      refine ⟨(lim - (cc + 1)).toNat, by omega, _, _, cc + 1, _, rfl, by assumption, by assumption, by omega, by omega, fun j h3 h4 => ?_, rfl⟩
      by_cases h5 : j = cc
      · subst h5; exact h2
      · exact hc3 j h3 (by omega)
  · k_steps
    refine' hQ _ _ _ _ _ ?cd ⟨cc, rfl, hc1, hc2, hc3, Or.inr ⟨by omega, rfl⟩⟩ ?cF ?cN
    case cF => assumption
    case cN => assumption
    case cd => exact dict_some

set_option maxHeartbeats 8000000 in
theorem m_go_in_grouping (w : World) (a : Addr) (xs : List (Nat × Tok)) (hS : SetAt w a xs) : Meth w 2 20 70 [.ref a] (fun σ => σ.ok ∧ σ.p1.isSome = true ∧ σ.c ≤ σ.lim ∧ σ.lim = σ.cur.length)
    (fun σ r σ' => ∃ cc, σ' = { σ with c := cc } ∧ σ.c ≤ cc ∧ cc ≤ σ.lim ∧ (∀ j, σ.c ≤ j → j < cc → memOf xs (Txt.item σ.cur j) = true) ∧ ((cc < σ.lim ∧ memOf xs (Txt.item σ.cur cc) = false ∧ r = .bool true) ∨ (cc = σ.lim ∧ r = .bool false))) := by
  refine Meth.of7 (fun σ h => by first | exact h.2.1 | exact h.2) ?_
  intro mean mg mb A₀ A base h₀ env outer L m sh sg sd st so x dx rest Q E zk cur c lim lb bra ket p1 B F X N T XB TB hrest hxd hA hf hk hd hu hp hQ
  have hxd2 := neN hxd
  obtain ⟨⟨b1, b2, b3, b4⟩, b5, b6, b7⟩ := hp
  dsimp only at b1 b2 b3 b4 b5 b6 b7
  clear b5
  (try dsimp only at hQ)
  walk_at "m_enter"
  k_steps
  rename Fr _ _ _ _ => F1
  rename News _ _ _ _ => N1
  unfold Stop
  refine while_rule (fun n s' => Go4 w x dx a rest sg sd so zk cur c lim lb bra ket p1 xs true _ _ n s') (lim - c).toNat ⟨_, _, c, _, rfl, F1, N1, Int.le_refl c, b6, fun j h1 h2 => absurd h1 (by omega), rfl⟩ ?_
  clear F1 N1
  rintro n s' ⟨h₁, tk₁, cc, t2, rfl, F2, N2, hc1, hc2, hc3, rfl⟩
  by_cases h1 : cc < lim
  · have hb : cc < cur.length := by omega
    cases h2 : memOf xs (Txt.item cur cc) with
    | false =>
      k_steps
      refine' hQ _ _ _ _ _ ?cd ⟨cc, rfl, hc1, hc2, hc3, Or.inl ⟨h1, h2, rfl⟩⟩ ?cF ?cN
      case cF => assumption
      case cN => assumption
      case cd => exact dict_some
    | true =>
      k_steps
      unfold Stop
      refine ⟨(lim - (cc + 1)).toNat, by omega, _, _, cc + 1, _, rfl, by assumption, by assumption, by omega, by omega, fun j h3 h4 => ?_, rfl⟩
      by_cases h5 : j = cc
      · subst h5; exact h2
      · exact hc3 j h3 (by omega)
  · k_steps
    refine' hQ _ _ _ _ _ ?cd ⟨cc, rfl, hc1, hc2, hc3, Or.inr ⟨by omega, rfl⟩⟩ ?cF ?cN
    case cF => assumption
    case cN => assumption
    case cd => exact dict_some
end
-- W5
section
open PySem PySem.W PySem.Calls PyProof.Rows PySem.Spec


/-- what replace_s makes of the places -/
noncomputable def repSt (σ : St) (b k : Int) (s : Str) : St :=
  { σ with cur := Txt.slice σ.cur (some 0) (some b) ++ s ++ Txt.slice σ.cur (some k) none, lim := σ.lim + (s.length - (k - b)), c := if k ≤ σ.c then σ.c + (s.length - (k - b)) else if b < σ.c then b else σ.c }

set_option maxHeartbeats 8000000 in
theorem m_replace_s (w : World) (b k : Int) (v : Str) (t1 t2 t3 : Tok) (hv : v.length ≤ 1000) : Meth w 2 20 147 [.int b t1, .int k t2, .str v t3] (fun σ => σ.ok ∧ σ.p1.isSome = true ∧ 0 ≤ b ∧ b ≤ k ∧ k ≤ σ.cur.length ∧ σ.lim = σ.cur.length)
    (fun σ r σ' => σ' = repSt σ b k v) := by
  refine Meth.of7 (fun σ h => by first | exact h.2.1 | exact h.2) ?_
  intro mean mg mb A₀ A base h₀ env outer L m sh sg sd st so x dx rest Q E zk cur c lim lb bra ket p1 B F X N T XB TB hrest hxd hA hf hk hd hu hp hQ
  have hxd2 := neN hxd
  obtain ⟨⟨b1, b2, b3, b4⟩, b5, b6, b7, b8, b9⟩ := hp
  dsimp only at b1 b2 b3 b4 b5 b6 b7 b8 b9
  clear b5
  (try dsimp only at hQ)
  dsimp only [repSt] at hQ
  have hQ2 : ∀ {r : Value} {c' : Int} {o' : Obj} {h' : Heap} {tk' : Tok}, DictIs w.params ⟨Txt.slice cur (some 0) (some b) ++ v ++ Txt.slice cur (some k) none, c', lim + (v.length - (k - b)), lb, bra, ket, some p1⟩ o' → c' = (if k ≤ c then c + (v.length - (k - b)) else if b < c then b else c) →
      Fr h₀ L h' m → News h₀ L h' ((x, instObj 494 dx) :: (dx, o') :: rest) → Q r ⟨h', sg, sd, tk', so⟩ := by
    intro r c' o' h' tk' a e b1 b2
    subst e
    exact hQ _ _ _ _ _ a rfl b1 b2
  clear hQ
  walk_at "m_enter"
  k_steps
  all_goals (refine' hQ2 ?cd ?ce ?cF ?cN; (case cF => first | with_reducible assumption | assumption); (case cN => first | with_reducible assumption | assumption); (case cd => exact dict_some); (case ce => first | (rw [if_pos (by omega)]) | (rw [if_neg (by omega), if_pos (by omega)]) | (rw [if_neg (by omega), if_neg (by omega)])))
end
-- W6
section
open PySem PySem.W PySem.Calls PyProof.Rows PySem.Spec

local macro_rules | `(tactic| walk_at "call ref") => `(tactic| (k_here; (with_reducible show wpAny _ _ (call (Value.ref 147) _) _ _ _); k_dflt (refine' Meth.use7 (m_replace_s _ _ _ _ _ _ _ ?hv) ?B ?F ?X ?N ?T ?XB ?TB ?hx ?Up ?hA ?hf ?hk ?hd ?hu ?hp ?_; (case B | F | X | N | T | XB | TB => k_asm); (case hx => k_mem); (case Up => k_updF); (case hA => exact Around.frames_deeper (by k_all)); (case hf | hk => exact rfl); (case hd => (simp only [depth_deeper, depth_in1]; omega)); (case hu => (simp only [units_deeper, units_in1]; omega)); (case hp => (dsimp only [St.ok]; exact ⟨⟨by omega, by omega, by omega, by omega⟩, rfl, by omega, by omega, by omega, by omega⟩)); (case hv => omega); k_whole); intro r2 σ2 o2 h2 tk2 hd2 hp2 F2 N2; (try dsimp only at N2); (subst hp2; dsimp only [repSt] at hd2); obtain ⟨zk, e2⟩ := kap7 hd2; subst e2; (try dsimp only at N2); (try k_sweep)))

set_option maxHeartbeats 8000000 in
theorem m_slice_from (w : World) (v : Str) (t : Tok) (hv : v.length ≤ 1000) : Meth w 4 40 154 [.str v t] (fun σ => σ.ok ∧ σ.p1.isSome = true ∧ 0 ≤ σ.bra ∧ σ.bra ≤ σ.ket ∧ σ.ket ≤ σ.lim ∧ σ.lim = σ.cur.length)
    (fun σ r σ' => σ' = { repSt σ σ.bra σ.ket v with ket := σ.bra + v.length } ∧ r = .none) := by
  refine Meth.of7 (fun σ h => by first | exact h.2.1 | exact h.2) ?_
  intro mean mg mb A₀ A base h₀ env outer L m sh sg sd st so x dx rest Q E zk cur c lim lb bra ket p1 B F X N T XB TB hrest hxd hA hf hk hd hu hp hQ
  have hxd2 := neN hxd
  obtain ⟨⟨b1, b2, b3, b4⟩, b5, b6, b7, b8, b9⟩ := hp
  dsimp only at b1 b2 b3 b4 b5 b6 b7 b8 b9
  clear b5
  (try dsimp only at hQ)
  (try dsimp only [repSt] at hQ)
  walk_at "m_enter"
  k_steps
  refine' hQ _ _ _ _ _ ?cd ⟨rfl, rfl⟩ ?cF ?cN
  case cF => assumption
  case cN => assumption
  case cd => exact dict_some

local macro_rules | `(tactic| walk_at "call ref") => `(tactic| (k_here; (with_reducible show wpAny _ _ (call (Value.ref 154) _) _ _ _); k_dflt (refine' Meth.use7 (m_slice_from _ _ _ ?hv) ?B ?F ?X ?N ?T ?XB ?TB ?hx ?Up ?hA ?hf ?hk ?hd ?hu ?hp ?_; (case B | F | X | N | T | XB | TB => k_asm); (case hx => k_mem); (case Up => k_updF); (case hA => exact Around.frames_deeper (by k_all)); (case hf | hk => exact rfl); (case hd => (simp only [depth_deeper, depth_in1]; omega)); (case hu => (simp only [units_deeper, units_in1]; omega)); (case hp => (dsimp only [St.ok]; exact ⟨⟨by omega, by omega, by omega, by omega⟩, rfl, by omega, by omega, by omega, by omega⟩)); (case hv => decide); k_whole); intro r2 σ2 o2 h2 tk2 hd2 hp2 F2 N2; (try dsimp only at N2); (obtain ⟨e1, e3⟩ := hp2; subst e1; subst e3; dsimp only [repSt] at hd2); obtain ⟨zk, e2⟩ := kap7 hd2; subst e2; (try dsimp only at N2); (try k_sweep)))

set_option maxHeartbeats 8000000 in
theorem m_slice_del (w : World) : Meth w 6 50 161 [] (fun σ => σ.ok ∧ σ.p1.isSome = true ∧ 0 ≤ σ.bra ∧ σ.bra ≤ σ.ket ∧ σ.ket ≤ σ.lim ∧ σ.lim = σ.cur.length)
    (fun σ r σ' => σ' = { repSt σ σ.bra σ.ket (Str.ofString "") with ket := σ.bra + (Str.ofString "").length } ∧ r = .none) := by
  refine Meth.of7 (fun σ h => by first | exact h.2.1 | exact h.2) ?_
  intro mean mg mb A₀ A base h₀ env outer L m sh sg sd st so x dx rest Q E zk cur c lim lb bra ket p1 B F X N T XB TB hrest hxd hA hf hk hd hu hp hQ
  have hxd2 := neN hxd
  obtain ⟨⟨b1, b2, b3, b4⟩, b5, b6, b7, b8, b9⟩ := hp
  dsimp only at b1 b2 b3 b4 b5 b6 b7 b8 b9
  clear b5
  (try dsimp only at hQ)
  (try dsimp only [repSt] at hQ)
  walk_at "m_enter"
  k_steps
  refine' hQ _ _ _ _ _ ?cd ⟨rfl, rfl⟩ ?cF ?cN
  case cF => assumption
  case cN => assumption
  case cd => exact dict_some
end
-- W7
section
open PySem PySem.W PySem.Calls PyProof.Rows PySem.Spec

abbrev frs (l : List Env) : List Addr := l.filterMap (·.frame)

theorem frs_mem {env : Env} {L b : Addr} {outer : List Env} (hf : env.frame = some L) (hm : b ∈ frs (env :: outer)) : b = L ∨ b ∈ frs outer := by
  obtain ⟨e, he, hfe⟩ := List.mem_filterMap.mp hm
  rcases List.mem_cons.mp he with rfl | he
  · exact .inl (Option.some.inj (hfe.symm.trans hf))
  · exact .inr (List.mem_filterMap.mpr ⟨e, he, hfe⟩)

/-- the way out of a def that may have caught -/
noncomputable def LeaveT (P : Params) (mean : ExcName → Option Value) (mg mb : Str → Option Value) (A₀ : Around) (base : Heap) (outer : List Env) (fs : List Addr) (h₀ : Heap) (L : Addr) (m : Str → Option Value) (g : Heap) (R : Result → Shared → Prop) (v : Value) (s' : Shared) : Prop :=
  ∃ g' L' m' news', KtsTurn fs g g' ∧ Fr g' L' s'.heap m' ∧ News g' L' s'.heap news' ∧ ∀ h₀', KtsTurn (frs outer) h₀ h₀' → Fr h₀' L s'.heap m → News h₀' L s'.heap news' → Below A₀ base outer h₀' → (KF P).In h₀' → Top vq (looseW vq vloose) mean mg mb h₀' → KtsDicts (frs outer) h₀' → R (.ok (.ret v)) s'
theorem leaveT_ {P : Params} {mean : ExcName → Option Value} {mg mb : Str → Option Value} {A₀ : Around} {base : Heap} {outer : List Env} {fs : List Addr} {h₀ g g' : Heap} {L L' : Addr} {m m' : Str → Option Value} {news' : List (Addr × Obj)} {R : Result → Shared → Prop} {v : Value} {s' : Shared}
    (F' : Fr g' L' s'.heap m') (N' : News g' L' s'.heap news') (T : KtsTurn fs g g')
    (k : ∀ h₀', KtsTurn (frs outer) h₀ h₀' → Fr h₀' L s'.heap m → News h₀' L s'.heap news' → Below A₀ base outer h₀' → (KF P).In h₀' → Top vq (looseW vq vloose) mean mg mb h₀' → KtsDicts (frs outer) h₀' → R (.ok (.ret v)) s') :
    LeaveT P mean mg mb A₀ base outer fs h₀ L m g R v s' := ⟨g', L', m', news', T, F', N', k⟩

section
variable {prog : Program} {w : World} {A₀ A : Around} {s : Shared} {base h₀ : Heap} {outer : List Env} {L : Addr} {m : Str → Option Value} {env : Env} {news : List (Addr × Obj)} {P : Params} {mean : ExcName → Option Value} {mg mb : Str → Option Value}
    {R : Result → Shared → Prop} {name qual : Str} {params : Arguments} {body : List Stmt} {scope : Scope} {dV kV doc pm cdv ct oc : Value} {an od : Option Addr} {osl : Array (Option Value)} {f : Addr} {args : Args} {binds : List (Str × Value)}

theorem code_defT (B : Below A₀ base outer h₀) (F : Fr h₀ L s.heap m) (X₀ : (KF P).In h₀) (N : News h₀ L s.heap news) (T : Top vq (looseW vq vloose) mean mg mb h₀) (XB : (KF P).In base) (TB : Top vq (looseW vq vloose) mean mg mb base) (D : KtsDicts (frs outer) h₀)
    (hA : A.frames = some (env :: outer)) (hf : env.frame = some L) (hke : env.scope.kind = .function)
    (ho : (KF P).lookup f = some ⟨oc, od, .func (fnOf name qual params body scope dV kV doc pm an cdv ct), osl⟩) (hcd : codeIn (KF P) cdv qual = true) (hroom : A.depth < recursionLimit)
    (hbind : BindsTo s (fnOf name qual params body scope dV kV doc pm an cdv ct) args binds) (hloc : ∀ y ∈ binds, scope.names.lookup y.1 = some .local)
    (h : ∀ g L' h₁, Fr h₀ L g m → Fr g L' h₁ (fun y => binds.reverse.lookup y) → News g L' h₁ news → Below A base (env :: outer) g → (KF P).In g → Top vq (looseW vq vloose) mean mg mb g → KtsDicts (frs (env :: outer)) g →
      wpAny (model prog w) (A.deeper (envOf qual scope L' f cdv)) (execs body (envOf qual scope L' f cdv))
        (fun fl s' => LeaveT P mean mg mb A₀ base outer (frs (env :: outer)) h₀ L m g R (match fl with | .ret v => v | _ => .none) s')
        (fun e s' => wpAny (model prog w) (A.deeper (envOf qual scope L' f cdv)) (leaving (envOf qual scope L' f cdv) e) (fun _ s'' => R (.error e) s'') (fun e' s'' => R (.error e') s'') s')
        { s with heap := h₁, toks := s.toks + binds.length })
    (hco : scope.isCoroutine = false) (hgen : scope.isGenerator = false) (hk : scope.kind = .function)
    (hcell : ∀ x ∈ scope.names, x.2 ≠ .cell) : codeAny (model prog w) A (.call (.ref f) args) R s := by
  have X := X₀.keeps F.keep
  obtain ⟨FG, BG, st, _⟩ := groundX (R := R) B F N hA hf hke
  refine codeAny_call_def (fd := fnOf name qual params body scope dV kV doc pm an cdv ct) (body := body) (binds := binds) hroom (X _ _ ho) rfl (T.nolimit.keeps F.keep) (codeRec_of X hcd) rfl hbind hcell hloc (fun h₁ hns hk₁ => ?_) hco hgen hk
  obtain ⟨oL, es, ep, hLg, hLd, hLk, hLf⟩ := FG.ns
  have hNs : ∀ (sl : Array (Option Value)) h', h'.get? L = some { oL with slots := sl } → Heap.Ns h' L m := fun sl h' e => ⟨_, es, ep, e, hLd, hLk, hLf⟩
  refine wpAny_mono (h _ s.heap.objs.size h₁ FG ⟨hns, fun b o e => hk₁ b o (of_hideAll _ e), Nat.le_of_eq (hideAll_size _ _)⟩
    (fun p hp => ⟨hk₁ _ _ (N p hp).1, Nat.ne_of_lt (Heap.lt_size (N p hp).1), hideAll_none _ (List.mem_map_of_mem hp)⟩) BG (X₀.keeps st) (T.keeps st) (fun b hb => by
      rcases frs_mem hf hb with rfl | hb
      · exact ⟨oL, es, ep, hLg, hLd⟩
      · obtain ⟨o, es', n', ho', hd'⟩ := D b hb
        exact ⟨o, es', n', st b o ho', hd'⟩)) (fun fl s' hl => ?_) fun _ _ y => y
  have nL₀ : h₀.get? L = none := kts_self F
  obtain ⟨g', L', m', news', T', F', N', k⟩ := hl
  obtain ⟨sl, hs⟩ := T'.up hLg
  obtain ⟨T₁, S₁⟩ := kts_turn_at (h := s'.heap) (fs := frs outer) (g := h₀)
    (fun b hb => by
      obtain ⟨_, o, ho', _⟩ := B.frames.mem hb
      exact ⟨o, ho'⟩)
    (fun b o e nmem => F'.keep b o (T'.other b o (st b o e) (fun q => by
      rcases frs_mem hf q with z | z
      · rw [z, nL₀] at e
        cases e
      · exact nmem z)))
    (fun b o e hm => by
      obtain ⟨sl', hs'⟩ := T'.up (st b o e)
      exact ⟨sl', F'.keep _ _ hs'⟩)
  have B₃ : Below A₀ base outer (ktsHeap s'.heap (frs outer) h₀) := ⟨B.stack, fun b o e => T₁.other b o (B.stays b o e) (fun hm => by
    rw [(B.frames.mem hm).1] at e
    cases e), B.frames.of_keeps fun b o e _ => by
    obtain ⟨sl', hs'⟩ := T₁.up e
    exact ⟨_, hs', rfl⟩⟩
  refine k _ T₁ ⟨hNs sl _ (F'.keep _ _ hs), S₁, by rw [T₁.size]; exact F.above⟩ (fun p hp => ⟨(N' p hp).1, fun q => ?_, ?_⟩) B₃ (XB.keeps B₃.stays) (TB.keeps B₃.stays) (D.turn T₁)
  · have := (N' p hp).2.2; rw [q, hs] at this; cases this
  · refine T₁.none_ _ ?_
    cases q : h₀.get? p.1 with
    | none => rfl
    | some o =>
      obtain ⟨sl', hs'⟩ := T'.up (st _ _ q)
      have := (N' p hp).2.2
      rw [hs'] at this
      cases this
end

section
variable {prog : Program} {w : World} {A₀ : Around} {E : Value → Shared → Prop} {s' : Shared} {base g g₀ h : Heap} {outer : List Env} {L a e C : Addr} {m : Str → Option Value} {name : Str} {scope : Scope} {cd : Value}
  {vs : List Value} {b₀ : Stmt} {suite : List Stmt} {pos np : Pos} {rest : List ExceptHandler} {Q : Flow → Shared → Prop} {news : List (Addr × Obj)} {P : Params}
  {mean : ExcName → Option Value} {mg mb : Str → Option Value} {x : Str}

/-- raised and caught in one frame, some frames below the caller's -/
theorem caught_here (hx : Heap.MadeExcOf h s'.heap e (.ref C) vs) (F : Fr g L h m) (N : News g L h news) (K : Below A₀ base outer g) (XB : (KF P).In base) (TB : Top vq (looseW vq vloose) mean mg mb base)
    (D : KtsDicts (frs outer) g) (T0 : KtsTurn (frs outer) g₀ g)
    (ex : nsIn (KF P) mainGlobals x = some (some (.ref C))) (q : ktsIn (KF P) C "BaseException" = true)
    (k : ∀ h' g', KtsTurn (frs outer) g₀ g' → Fr g' L h' m → News g' L h' news → Below A₀ base outer g' → (KF P).In g' → Top vq (looseW vq vloose) mean mg mb g' → KtsDicts (frs outer) g' →
      wpAny (model prog w) ((A₀.deeper (envOf name scope L a cd)).mark (some (.ref e))) (execs (b₀ :: suite) (envOf name scope L a cd)) Q E { s' with heap := h' })
    (hk : scope.kind = .function := by rfl) (hkx : (envOf name scope L a cd).kindOf x = some .globalImplicit := by rfl) (hd : (x == ("__debug__" : Str)) = false := by decide)
    (hE : PassesOwnAt (model prog w) ((A₀.deeper (envOf name scope L a cd)).mark (some (.ref e))) (A₀.deeper (envOf name scope L a cd)) (envOf name scope L a cd) E := by passes_own) :
    wpAny (model prog w) (A₀.deeper (envOf name scope L a cd)) (noteFrame (.ref e) (envOf name scope L a cd))
      (fun _ s₂ => wpAny (model prog w) (A₀.deeper (envOf name scope L a cd)) (setFlight (.ref e) none) (fun _ s₃ =>
        wpAny (model prog w) (A₀.deeper (envOf name scope L a cd)) (handleBy (.ref e) (envOf name scope L a cd) (.ExceptHandler (some (.Name x np)) none (b₀ :: suite) pos :: rest)) Q E s₃) E s₂) E s' := by
  have K' := K.push (name := name) (a := a) (cd := cd) F hk
  have hin : ∀ env ∈ (envOf name scope L a cd :: outer), ∀ b, env.frame = some b → b ∈ (envOf name scope L a cd :: outer).filterMap (·.frame) := fun env he b hb => List.mem_filterMap.mpr ⟨env, he, hb⟩
  have hBG : ∀ b o, h.get? b = some o → b ∉ (envOf name scope L a cd :: outer).filterMap (·.frame) → (hideAll h ((envOf name scope L a cd :: outer).filterMap (·.frame))).get? b = some o := fun b o q nm => hideAll_get _ q nm
  have hl : ∀ q ∈ news, (hideAll h ((envOf name scope L a cd :: outer).filterMap (·.frame))).get? q.1 = some q.2 := fun q hq => by
    refine hideAll_get _ (N q hq).1 fun hm => ?_
    rcases kts_mem hm with z | z
    · exact (N q hq).2.1 z
    · obtain ⟨_, o, ho, _⟩ := K.frames.mem z
      rw [(N q hq).2.2] at ho; cases ho
  have hL : (hideAll h ((envOf name scope L a cd :: outer).filterMap (·.frame))).get? L = none := hideAll_none _ (hin _ (List.mem_cons_self ..) _ rfl)
  obtain ⟨t, he, htn, ht⟩ := hx.there
  have hfr : (hideAll h ((envOf name scope L a cd :: outer).filterMap (·.frame))).get? e = none := by
    cases hq : (hideAll h ((envOf name scope L a cd :: outer).filterMap (·.frame))).get? e with
    | none => rfl
    | some o' => have := of_hideAll _ hq; rw [hx.new] at this; cases this
  have hff := funFrames_hide K'.frames hin
  unfold noteFrame
  simp only [show (envOf name scope L a cd).frame = some L from rfl]
  refine wpAny_bind (wpAny_field he rfl (x := .none) rfl ?_)
  rw [if_neg (show ¬ ((Value.none != Value.none) = true) from by decide)]
  refine wpAny_entryW (a0 := .ref t) (outer := outer) (base := hideAll h ((envOf name scope L a cd :: outer).filterMap (·.frame))) (Around.frames_deeper K.stack) (hff.of_keeps fun b o hb _ => ⟨o, hx.keeps b o hb, rfl⟩) rfl he (fun b o hb => hx.keeps b o (of_hideAll _ hb)) hfr rfl (show 1 < 6 by decide) rfl fun h₄ hN => ?_
  have hheld₄ : Heap.HeldW (hideAll h ((envOf name scope L a cd :: outer).filterMap (·.frame))) (envOf name scope L a cd :: outer) e (.ref C) (.ref t) L h₄ := ⟨hN.1, hfr, hN.2.1, hN.2.2.1⟩
  have hsm₄ : h.UpToSlots h₄ := (Heap.UpToSlots.of_keeps hx.keeps).trans hN.2.2.2
  refine wpAny_landsW hheld₄ fun h₅ hheld hsm₅' => ?_
  have hsm₅ := hsm₄.trans hsm₅'
  obtain ⟨g₅, T₅, F₅, K₅⟩ := kts_ground K F hBG hheld.1 hsm₅
  have X₅ : (KF P).In g₅ := XB.keeps K₅.stays
  have P₅ : TopRead vq (looseW vq vloose) mg mb g₅ := topRead_of (TB.keeps K₅.stays)
  obtain ⟨ob, hob, hobc⟩ := hheld.there
  obtain ⟨nm, q', N', bs, bm, hdct, sn, sub, ab, col, dd, k0, k1, k2, k3, k5, newId, hC, hbase, hbT⟩ := kts_cls X₅ q
  have hC₅ := F₅.keep _ _ hC
  refine wpAny_handleBy_cons (codeAny_handlers_test (name_K F₅ X₅ P₅ ex ?_ hk hkx hd)) (by intro q; cases q)
  refine wpAny_excMatches_sub_self hC₅ hob hobc hbase (codeAny_handlers_suite ?_)
  refine lands_againW hheld fun h₆ hfl₆ hsm₆ => ?_
  obtain ⟨g₆, T₆, F₆, K₆⟩ := kts_ground K F hBG hfl₆.1 (hsm₅.trans hsm₆)
  have Nl : News g₆ L h₆ news := fun q hq => ⟨hfl₆.1 _ _ (hl q hq), (fun z => by have := hl q hq; rw [z, hL] at this; cases this), T₆.none_ _ (N q hq).2.2⟩
  have X₆ : (KF P).In g₆ := XB.keeps K₆.stays
  have P₆ : Top vq (looseW vq vloose) mean mg mb g₆ := TB.keeps K₆.stays
  exact wpAny_passesOwnAt hE (k h₆ g₆ (T0.trans T₆) F₆ Nl K₆ X₆ P₆ (D.turn T₆))
end

/-- the contract of a method that may catch -/
structure MethC (w : World) (D U : Nat) (f : Addr) (args : List Value) (pre : St → Prop) (post : St → Value → St → Prop) : Prop where
  run : ∀ {mean : ExcName → Option Value} {mg mb : Str → Option Value} {A₀ A : Around} {base h₀ : Heap} {env : Env} {outer : List Env} {L : Addr} {m : Str → Option Value} {s : Shared} {x dx : Addr} {o : Obj} {σ : St} {rest : List (Addr × Obj)} {Q E : Value → Shared → Prop},
    Below A₀ base outer h₀ → Fr h₀ L s.heap m → (KF w.params).In h₀ → News h₀ L s.heap ((x, instObj 494 dx) :: (dx, o) :: rest) → Top vq (looseW vq vloose) mean mg mb h₀ → (KF w.params).In base → Top vq (looseW vq vloose) mean mg mb base →
    KtsDicts (frs outer) h₀ → A.handled = none →
    (∀ p ∈ rest, p.1 ≠ dx) → x ≠ dx → A.frames = some (env :: outer) → env.frame = some L → env.scope.kind = .function → A.depth + D < recursionLimit → A.units + U < cLine → DictIs w.params σ o → pre σ →
    (∀ r σ' o' h' tk' h₀', DictIs w.params σ' o' → post σ r σ' → KtsTurn (frs outer) h₀ h₀' → Fr h₀' L h' m → News h₀' L h' ((x, instObj 494 dx) :: (dx, o') :: rest) → Below A₀ base outer h₀' → (KF w.params).In h₀' → Top vq (looseW vq vloose) mean mg mb h₀' → KtsDicts (frs outer) h₀' → Q r { s with heap := h', toks := tk' }) →
    wpAny (model pw w) A (call (.ref f) (.ref x :: args)) Q E s

theorem MethC.use {w : World} {D U : Nat} {f : Addr} {args : List Value} {pre : St → Prop} {post : St → Value → St → Prop} (S : MethC w D U f args pre post)
    {mean : ExcName → Option Value} {mg mb : Str → Option Value} {A₀ A : Around} {base h₀ : Heap} {env : Env} {outer : List Env} {L : Addr} {m : Str → Option Value} {s : Shared} {x dx : Addr} {o : Obj} {σ : St} {news : List (Addr × Obj)} {g : Obj → List (Addr × Obj)} {Q E : Value → Shared → Prop} {g₀ : Heap}
    (B : Below A₀ base outer h₀) (F : Fr h₀ L s.heap m) (X : (KF w.params).In h₀) (N : News h₀ L s.heap news) (T : Top vq (looseW vq vloose) mean mg mb h₀) (XB : (KF w.params).In base) (TB : Top vq (looseW vq vloose) mean mg mb base) (Dk : KtsDicts (frs outer) h₀) (T0 : KtsTurn (frs outer) g₀ h₀) (hh : A.handled = none)
    (hx : (x, instObj 494 dx) ∈ news) (Up : UpdF dx o news g) (hA : A.frames = some (env :: outer)) (hf : env.frame = some L) (hk : env.scope.kind = .function) (hd : A.depth + D < recursionLimit) (hu : A.units + U < cLine) (hσ : DictIs w.params σ o) (hp : pre σ)
    (hQ : ∀ r σ' o' h' tk' h₀', DictIs w.params σ' o' → post σ r σ' → KtsTurn (frs outer) g₀ h₀' → Fr h₀' L h' m → News h₀' L h' (g o') → Below A₀ base outer h₀' → (KF w.params).In h₀' → Top vq (looseW vq vloose) mean mg mb h₀' → KtsDicts (frs outer) h₀' → Q r { s with heap := h', toks := tk' }) :
    wpAny (model pw w) A (call (.ref f) (.ref x :: args)) Q E s := by
  obtain ⟨pr, po, rfl, hg, a, b⟩ := Up.split
  have hdict : ∃ es n, o = dictOf es n := by
    unfold DictIs at hσ
    split at hσ
    · obtain ⟨κ, rfl⟩ := hσ; exact ⟨_, _, rfl⟩
    · obtain ⟨κ, rfl⟩ := hσ; exact ⟨_, _, rfl⟩
  have hxd : x ≠ dx := by
    rintro rfl
    have e1 := (N _ hx).1
    have e2 := (N (x, o) (by simp)).1
    rw [e1] at e2
    obtain ⟨es, n, rfl⟩ := hdict
    cases e2
  refine S.run (rest := pr ++ po) B F X (news_of_mem N fun p hp => ?_) T XB TB Dk hh (fun p hp => ?_) hxd hA hf hk hd hu hσ hp (fun r σ' o' h' tk' h₀' d' p' t' F' N' B' X' T' D' => hQ r σ' o' h' tk' h₀' d' p' (T0.trans t') F' ?_ B' X' T' D')
  · rcases List.mem_cons.mp hp with rfl | hp
    · exact hx
    · rcases List.mem_cons.mp hp with rfl | hp
      · simp
      · rcases List.mem_append.mp hp with h | h <;> simp [h]
  · rcases List.mem_append.mp hp with h | h
    · exact a p h
    · exact b p h
  · rw [hg]
    refine news_of_mem N' fun p hp => ?_
    rcases List.mem_append.mp hp with h | h
    · simp [h]
    · rcases List.mem_cons.mp h with rfl | h
      · simp
      · simp [h]

theorem MethC.use7 {w : World} {D U : Nat} {f : Addr} {args : List Value} {pre : St → Prop} {post : St → Value → St → Prop} (S : MethC w D U f args pre post)
    {mean : ExcName → Option Value} {mg mb : Str → Option Value} {A₀ A : Around} {base h₀ : Heap} {env : Env} {outer : List Env} {L : Addr} {m : Str → Option Value} {s : Shared} {x dx : Addr} {news : List (Addr × Obj)} {g : Obj → List (Addr × Obj)} {Q E : Value → Shared → Prop} {g₀ : Heap}
    {k1 k2 k3 k4 k5 k6 k7 u1 u2 u3 u4 u5 u6 u7 : Tok} {cur : Str} {c lim lb bra ket p1 : Int}
    (F : Fr h₀ L s.heap m) (B : Below A₀ base outer h₀) (X : (KF w.params).In h₀) (N : News h₀ L s.heap news) (T : Top vq (looseW vq vloose) mean mg mb h₀) (XB : (KF w.params).In base) (TB : Top vq (looseW vq vloose) mean mg mb base) (Dk : KtsDicts (frs outer) h₀) (T0 : KtsTurn (frs outer) g₀ h₀) (hh : A.handled = none)
    (hx : (x, instObj 494 dx) ∈ news) (Up : UpdF dx (dictOf [⟨PyData.keyHash w.params (Str.ofString "current"), .str (Str.ofString "current") k1, .str cur u1⟩, ⟨PyData.keyHash w.params (Str.ofString "cursor"), .str (Str.ofString "cursor") k2, .int c u2⟩, ⟨PyData.keyHash w.params (Str.ofString "limit"), .str (Str.ofString "limit") k3, .int lim u3⟩, ⟨PyData.keyHash w.params (Str.ofString "limit_backward"), .str (Str.ofString "limit_backward") k4, .int lb u4⟩, ⟨PyData.keyHash w.params (Str.ofString "bra"), .str (Str.ofString "bra") k5, .int bra u5⟩, ⟨PyData.keyHash w.params (Str.ofString "ket"), .str (Str.ofString "ket") k6, .int ket u6⟩, ⟨PyData.keyHash w.params (Str.ofString "I_p1"), .str (Str.ofString "I_p1") k7, .int p1 u7⟩] 7) news g) (hA : A.frames = some (env :: outer)) (hf : env.frame = some L) (hk : env.scope.kind = .function) (hd : A.depth + D < recursionLimit) (hu : A.units + U < cLine) (hp : pre ⟨cur, c, lim, lb, bra, ket, some p1⟩)
    (hQ : ∀ r σ' o' h' tk' h₀', DictIs w.params σ' o' → post ⟨cur, c, lim, lb, bra, ket, some p1⟩ r σ' → KtsTurn (frs outer) g₀ h₀' → Fr h₀' L h' m → News h₀' L h' (g o') → Below A₀ base outer h₀' → (KF w.params).In h₀' → Top vq (looseW vq vloose) mean mg mb h₀' → KtsDicts (frs outer) h₀' → Q r { s with heap := h', toks := tk' }) :
    wpAny (model pw w) A (call (.ref f) (.ref x :: args)) Q E s := S.use (σ := ⟨cur, c, lim, lb, bra, ket, some p1⟩) B F X N T XB TB Dk T0 hh hx Up hA hf hk hd hu dict_some hp hQ

/-- how a method's contract is shown where the dict has its seven places -/
theorem MethC.of7 {w : World} {D U : Nat} {f : Addr} {args : List Value} {pre : St → Prop} {post : St → Value → St → Prop} (h1 : ∀ σ, pre σ → σ.p1.isSome = true)
    (h : ∀ (mean : ExcName → Option Value) (mg mb : Str → Option Value) (A₀ A : Around) (base h₀ : Heap) (env : Env) (outer : List Env) (L : Addr) (m : Str → Option Value) (sh : Heap) (sg : Array GenState) (sd : Drawn) (st : Tok) (so : OsState) (x dx : Addr) (rest : List (Addr × Obj)) (Q E : Value → Shared → Prop) (zk : Nat → Tok) (cur : Str) (c lim lb bra ket p1 : Int),
      Below A₀ base outer h₀ → Fr h₀ L sh m → (KF w.params).In h₀ → News h₀ L sh ((x, instObj 494 dx) :: (dx, dictOf [⟨PyData.keyHash w.params (Str.ofString "current"), .str (Str.ofString "current") (zk 0), .str cur (zk 7)⟩, ⟨PyData.keyHash w.params (Str.ofString "cursor"), .str (Str.ofString "cursor") (zk 1), .int c (zk 8)⟩, ⟨PyData.keyHash w.params (Str.ofString "limit"), .str (Str.ofString "limit") (zk 2), .int lim (zk 9)⟩, ⟨PyData.keyHash w.params (Str.ofString "limit_backward"), .str (Str.ofString "limit_backward") (zk 3), .int lb (zk 10)⟩, ⟨PyData.keyHash w.params (Str.ofString "bra"), .str (Str.ofString "bra") (zk 4), .int bra (zk 11)⟩, ⟨PyData.keyHash w.params (Str.ofString "ket"), .str (Str.ofString "ket") (zk 5), .int ket (zk 12)⟩, ⟨PyData.keyHash w.params (Str.ofString "I_p1"), .str (Str.ofString "I_p1") (zk 6), .int p1 (zk 13)⟩] 7) :: rest) → Top vq (looseW vq vloose) mean mg mb h₀ → (KF w.params).In base → Top vq (looseW vq vloose) mean mg mb base → KtsDicts (frs outer) h₀ → A.handled = none → 
      (∀ p ∈ rest, p.1 ≠ dx) → x ≠ dx → A.frames = some (env :: outer) → env.frame = some L → env.scope.kind = .function → A.depth + D < recursionLimit → A.units + U < cLine → pre ⟨cur, c, lim, lb, bra, ket, some p1⟩ →
      (∀ r σ' o' h' tk' h₀', DictIs w.params σ' o' → post ⟨cur, c, lim, lb, bra, ket, some p1⟩ r σ' → KtsTurn (frs outer) h₀ h₀' → Fr h₀' L h' m → News h₀' L h' ((x, instObj 494 dx) :: (dx, o') :: rest) → Below A₀ base outer h₀' → (KF w.params).In h₀' → Top vq (looseW vq vloose) mean mg mb h₀' → KtsDicts (frs outer) h₀' → Q r ⟨h', sg, sd, tk', so⟩) → wpAny (model pw w) A (call (.ref f) (.ref x :: args)) Q E ⟨sh, sg, sd, st, so⟩) : MethC w D U f args pre post := by
  constructor
  intro mean mg mb A₀ A base h₀ env outer L m s x dx o σ rest Q E B F X N T XB TB DK hh hrest hxd hA hf hk hd hu hσ hp hQ
  obtain ⟨cur, c, lim, lb, bra, ket, p1⟩ := σ
  obtain ⟨p1, rfl⟩ := Option.isSome_iff_exists.mp (h1 _ hp)
  obtain ⟨zk, rfl⟩ := kap7 hσ
  exact h mean mg mb A₀ A base h₀ env outer L m s.heap s.gens s.drawn s.toks s.os x dx rest Q E zk cur c lim lb bra ket p1 B F X N T XB TB DK hh hrest hxd hA hf hk hd hu hp hQ
end
-- C0
section
open PySem PySem.W PySem.Calls PyProof.Rows PySem.Spec

/-- a contract told by what is left to show behind each of its ends -/
noncomputable def Meth7 (w : World) (D U : Nat) (f : Addr) (args : List Value) (cur : Str) (c lim lb bra ket p1 : Int) (pre : Prop) (Out : (Value → Str → Int → Int → Int → Int → Int → Int → Prop) → Prop) : Prop :=
  ∃ pre₀ post, Meth w D U f args pre₀ post ∧ (pre → pre₀ ⟨cur, c, lim, lb, bra, ket, some p1⟩) ∧ ∀ K, Out K → ∀ r σ', post ⟨cur, c, lim, lb, bra, ket, some p1⟩ r σ' → ∃ cur' c' lim' lb' bra' ket' p1', σ' = ⟨cur', c', lim', lb', bra', ket', some p1'⟩ ∧ K r cur' c' lim' lb' bra' ket' p1'
theorem Meth7.use {w : World} {D U : Nat} {f : Addr} {args : List Value} {cur : Str} {c lim lb bra ket p1 : Int} {pre : Prop} {Out : (Value → Str → Int → Int → Int → Int → Int → Int → Prop) → Prop} (S : Meth7 w D U f args cur c lim lb bra ket p1 pre Out)
    {mean : ExcName → Option Value} {mg mb : Str → Option Value} {A₀ A : Around} {base h₀ : Heap} {env : Env} {outer : List Env} {L : Addr} {m : Str → Option Value} {s : Shared} {x dx : Addr} {news : List (Addr × Obj)} {g : Obj → List (Addr × Obj)} {Q E : Value → Shared → Prop}
    {k1 k2 k3 k4 k5 k6 k7 u1 u2 u3 u4 u5 u6 u7 : Tok}
    (F : Fr h₀ L s.heap m) (B : Below A₀ base outer h₀) (X : (KF w.params).In h₀) (N : News h₀ L s.heap news) (T : Top vq (looseW vq vloose) mean mg mb h₀) (XB : (KF w.params).In base) (TB : Top vq (looseW vq vloose) mean mg mb base)
    (hx : (x, instObj 494 dx) ∈ news) (Up : UpdF dx (dictOf [⟨PyData.keyHash w.params (Str.ofString "current"), .str (Str.ofString "current") k1, .str cur u1⟩, ⟨PyData.keyHash w.params (Str.ofString "cursor"), .str (Str.ofString "cursor") k2, .int c u2⟩, ⟨PyData.keyHash w.params (Str.ofString "limit"), .str (Str.ofString "limit") k3, .int lim u3⟩, ⟨PyData.keyHash w.params (Str.ofString "limit_backward"), .str (Str.ofString "limit_backward") k4, .int lb u4⟩, ⟨PyData.keyHash w.params (Str.ofString "bra"), .str (Str.ofString "bra") k5, .int bra u5⟩, ⟨PyData.keyHash w.params (Str.ofString "ket"), .str (Str.ofString "ket") k6, .int ket u6⟩, ⟨PyData.keyHash w.params (Str.ofString "I_p1"), .str (Str.ofString "I_p1") k7, .int p1 u7⟩] 7) news g) (hA : A.frames = some (env :: outer)) (hf : env.frame = some L) (hk : env.scope.kind = .function) (hd : A.depth + D < recursionLimit) (hu : A.units + U < cLine) (hp : pre)
    (hQ : Out fun r cur' c' lim' lb' bra' ket' p1' => ∀ (κ : Nat → Tok) h' tk', Fr h₀ L h' m → News h₀ L h' (g (dictOf [⟨PyData.keyHash w.params (Str.ofString "current"), .str (Str.ofString "current") (κ 0), .str cur' (κ 7)⟩, ⟨PyData.keyHash w.params (Str.ofString "cursor"), .str (Str.ofString "cursor") (κ 1), .int c' (κ 8)⟩, ⟨PyData.keyHash w.params (Str.ofString "limit"), .str (Str.ofString "limit") (κ 2), .int lim' (κ 9)⟩, ⟨PyData.keyHash w.params (Str.ofString "limit_backward"), .str (Str.ofString "limit_backward") (κ 3), .int lb' (κ 10)⟩, ⟨PyData.keyHash w.params (Str.ofString "bra"), .str (Str.ofString "bra") (κ 4), .int bra' (κ 11)⟩, ⟨PyData.keyHash w.params (Str.ofString "ket"), .str (Str.ofString "ket") (κ 5), .int ket' (κ 12)⟩, ⟨PyData.keyHash w.params (Str.ofString "I_p1"), .str (Str.ofString "I_p1") (κ 6), .int p1' (κ 13)⟩] 7)) → Q r { s with heap := h', toks := tk' }) :
    wpAny (model pw w) A (call (.ref f) (.ref x :: args)) Q E s := by
  obtain ⟨pre₀, post, M, h1, h2⟩ := S
  refine M.use7 B F X N T XB TB hx Up hA hf hk hd hu (h1 hp) ?_
  intro r σ' o' h' tk' a b e1 e2
  obtain ⟨cur', c', lim', lb', bra', ket', p1', rfl, hK⟩ := h2 _ hQ r σ' b
  obtain ⟨κ, rfl⟩ := kap7 a
  exact hK κ h' tk' e1 e2
/-- a contract told by what is left to show behind each of its ends -/
noncomputable def MethC7 (w : World) (D U : Nat) (f : Addr) (args : List Value) (cur : Str) (c lim lb bra ket p1 : Int) (pre : Prop) (Out : (Value → Str → Int → Int → Int → Int → Int → Int → Prop) → Prop) : Prop :=
  ∃ pre₀ post, MethC w D U f args pre₀ post ∧ (pre → pre₀ ⟨cur, c, lim, lb, bra, ket, some p1⟩) ∧ ∀ K, Out K → ∀ r σ', post ⟨cur, c, lim, lb, bra, ket, some p1⟩ r σ' → ∃ cur' c' lim' lb' bra' ket' p1', σ' = ⟨cur', c', lim', lb', bra', ket', some p1'⟩ ∧ K r cur' c' lim' lb' bra' ket' p1'
theorem MethC7.use {w : World} {D U : Nat} {f : Addr} {args : List Value} {cur : Str} {c lim lb bra ket p1 : Int} {pre : Prop} {Out : (Value → Str → Int → Int → Int → Int → Int → Int → Prop) → Prop} (S : MethC7 w D U f args cur c lim lb bra ket p1 pre Out)
    {mean : ExcName → Option Value} {mg mb : Str → Option Value} {A₀ A : Around} {base h₀ : Heap} {env : Env} {outer : List Env} {L : Addr} {m : Str → Option Value} {s : Shared} {x dx : Addr} {news : List (Addr × Obj)} {g : Obj → List (Addr × Obj)} {Q E : Value → Shared → Prop} {g₀ : Heap}
    {k1 k2 k3 k4 k5 k6 k7 u1 u2 u3 u4 u5 u6 u7 : Tok}
    (F : Fr h₀ L s.heap m) (B : Below A₀ base outer h₀) (X : (KF w.params).In h₀) (N : News h₀ L s.heap news) (T : Top vq (looseW vq vloose) mean mg mb h₀) (XB : (KF w.params).In base) (TB : Top vq (looseW vq vloose) mean mg mb base) (Dk : KtsDicts (frs outer) h₀) (T0 : KtsTurn (frs outer) g₀ h₀) (hh : A.handled = none)
    (hx : (x, instObj 494 dx) ∈ news) (Up : UpdF dx (dictOf [⟨PyData.keyHash w.params (Str.ofString "current"), .str (Str.ofString "current") k1, .str cur u1⟩, ⟨PyData.keyHash w.params (Str.ofString "cursor"), .str (Str.ofString "cursor") k2, .int c u2⟩, ⟨PyData.keyHash w.params (Str.ofString "limit"), .str (Str.ofString "limit") k3, .int lim u3⟩, ⟨PyData.keyHash w.params (Str.ofString "limit_backward"), .str (Str.ofString "limit_backward") k4, .int lb u4⟩, ⟨PyData.keyHash w.params (Str.ofString "bra"), .str (Str.ofString "bra") k5, .int bra u5⟩, ⟨PyData.keyHash w.params (Str.ofString "ket"), .str (Str.ofString "ket") k6, .int ket u6⟩, ⟨PyData.keyHash w.params (Str.ofString "I_p1"), .str (Str.ofString "I_p1") k7, .int p1 u7⟩] 7) news g) (hA : A.frames = some (env :: outer)) (hf : env.frame = some L) (hk : env.scope.kind = .function) (hd : A.depth + D < recursionLimit) (hu : A.units + U < cLine) (hp : pre)
    (hQ : Out fun r cur' c' lim' lb' bra' ket' p1' => ∀ (κ : Nat → Tok) h' tk', ∀ h₀', KtsTurn (frs outer) g₀ h₀' → Fr h₀' L h' m → News h₀' L h' (g (dictOf [⟨PyData.keyHash w.params (Str.ofString "current"), .str (Str.ofString "current") (κ 0), .str cur' (κ 7)⟩, ⟨PyData.keyHash w.params (Str.ofString "cursor"), .str (Str.ofString "cursor") (κ 1), .int c' (κ 8)⟩, ⟨PyData.keyHash w.params (Str.ofString "limit"), .str (Str.ofString "limit") (κ 2), .int lim' (κ 9)⟩, ⟨PyData.keyHash w.params (Str.ofString "limit_backward"), .str (Str.ofString "limit_backward") (κ 3), .int lb' (κ 10)⟩, ⟨PyData.keyHash w.params (Str.ofString "bra"), .str (Str.ofString "bra") (κ 4), .int bra' (κ 11)⟩, ⟨PyData.keyHash w.params (Str.ofString "ket"), .str (Str.ofString "ket") (κ 5), .int ket' (κ 12)⟩, ⟨PyData.keyHash w.params (Str.ofString "I_p1"), .str (Str.ofString "I_p1") (κ 6), .int p1' (κ 13)⟩] 7)) → Below A₀ base outer h₀' → (KF w.params).In h₀' → Top vq (looseW vq vloose) mean mg mb h₀' → KtsDicts (frs outer) h₀' → Q r { s with heap := h', toks := tk' }) :
    wpAny (model pw w) A (call (.ref f) (.ref x :: args)) Q E s := by
  obtain ⟨pre₀, post, M, h1, h2⟩ := S
  refine M.use7 F B X N T XB TB Dk T0 hh hx Up hA hf hk hd hu (h1 hp) ?_
  intro r σ' o' h' tk' h₀' a b e1 e2 e3 e4 e5 e6 e7
  obtain ⟨cur', c', lim', lb', bra', ket', p1', rfl, hK⟩ := h2 _ hQ r σ' b
  obtain ⟨κ, rfl⟩ := kap7 a
  exact hK κ h' tk' h₀' e1 e2 e3 e4 e5 e6 e7
theorem Meth7.mono {w : World} {D U : Nat} {f : Addr} {args : List Value} {cur : Str} {c lim lb bra ket p1 : Int} {pre : Prop} {Out Out' : (Value → Str → Int → Int → Int → Int → Int → Int → Prop) → Prop} (S : Meth7 w D U f args cur c lim lb bra ket p1 pre Out) (h : ∀ K, Out' K → Out K) : Meth7 w D U f args cur c lim lb bra ket p1 pre Out' := by
  obtain ⟨pre₀, post, M, h1, h2⟩ := S
  exact ⟨pre₀, post, M, h1, fun K hK => h2 K (h K hK)⟩
theorem Meth7.mk_ {w : World} {D U : Nat} {f : Addr} {args : List Value} {cur : Str} {c lim lb bra ket p1 : Int} {pre : Prop} {Out : (Value → Str → Int → Int → Int → Int → Int → Int → Prop) → Prop} {pre₀ : St → Prop} {post : St → Value → St → Prop} (M : Meth w D U f args pre₀ post) (h1 : pre → pre₀ ⟨cur, c, lim, lb, bra, ket, some p1⟩)
    (h2 : pre → ∀ K, Out K → ∀ r σ', post ⟨cur, c, lim, lb, bra, ket, some p1⟩ r σ' → ∃ cur' c' lim' lb' bra' ket' p1', σ' = ⟨cur', c', lim', lb', bra', ket', some p1'⟩ ∧ K r cur' c' lim' lb' bra' ket' p1') : Meth7 w D U f args cur c lim lb bra ket p1 pre Out := by
  refine ⟨fun σ => pre₀ σ ∧ (σ = ⟨cur, c, lim, lb, bra, ket, some p1⟩ → pre), fun σ r σ' => post σ r σ' ∧ (σ = ⟨cur, c, lim, lb, bra, ket, some p1⟩ → pre), ?_, fun h => ⟨h1 h, fun _ => h⟩, fun K hK r σ' h => h2 (h.2 rfl) K hK r σ' h.1⟩
  constructor
  intro mean mg mb A₀ A base h₀ env outer L m s x dx o σ rest Q E B F X N T XB TB hrest hxd hA hf hk hd hu hσ hp hQ
  exact M.run B F X N T XB TB hrest hxd hA hf hk hd hu hσ hp.1 fun r σ' o' h' tk' a b => hQ r σ' o' h' tk' a ⟨b, hp.2⟩
theorem MethC7.mono {w : World} {D U : Nat} {f : Addr} {args : List Value} {cur : Str} {c lim lb bra ket p1 : Int} {pre : Prop} {Out Out' : (Value → Str → Int → Int → Int → Int → Int → Int → Prop) → Prop} (S : MethC7 w D U f args cur c lim lb bra ket p1 pre Out) (h : ∀ K, Out' K → Out K) : MethC7 w D U f args cur c lim lb bra ket p1 pre Out' := by
  obtain ⟨pre₀, post, M, h1, h2⟩ := S
  exact ⟨pre₀, post, M, h1, fun K hK => h2 K (h K hK)⟩
theorem MethC7.mk_ {w : World} {D U : Nat} {f : Addr} {args : List Value} {cur : Str} {c lim lb bra ket p1 : Int} {pre : Prop} {Out : (Value → Str → Int → Int → Int → Int → Int → Int → Prop) → Prop} {pre₀ : St → Prop} {post : St → Value → St → Prop} (M : MethC w D U f args pre₀ post) (h1 : pre → pre₀ ⟨cur, c, lim, lb, bra, ket, some p1⟩)
    (h2 : pre → ∀ K, Out K → ∀ r σ', post ⟨cur, c, lim, lb, bra, ket, some p1⟩ r σ' → ∃ cur' c' lim' lb' bra' ket' p1', σ' = ⟨cur', c', lim', lb', bra', ket', some p1'⟩ ∧ K r cur' c' lim' lb' bra' ket' p1') : MethC7 w D U f args cur c lim lb bra ket p1 pre Out := by
  refine ⟨fun σ => pre₀ σ ∧ (σ = ⟨cur, c, lim, lb, bra, ket, some p1⟩ → pre), fun σ r σ' => post σ r σ' ∧ (σ = ⟨cur, c, lim, lb, bra, ket, some p1⟩ → pre), ?_, fun h => ⟨h1 h, fun _ => h⟩, fun K hK r σ' h => h2 (h.2 rfl) K hK r σ' h.1⟩
  constructor
  intro mean mg mb A₀ A base h₀ env outer L m s x dx o σ rest Q E B F X N T XB TB DK hh hrest hxd hA hf hk hd hu hσ hp hQ
  exact M.run B F X N T XB TB DK hh hrest hxd hA hf hk hd hu hσ hp.1 fun r σ' o' h' tk' h₀' a b => hQ r σ' o' h' tk' h₀' a ⟨b, hp.2⟩
theorem lt_dep1 {a n k b d : Nat} (h : a + b < d) (hb : n + k ≤ b) : a + n + k < d := by omega
theorem lt_dep0 {a k b d : Nat} (h : a + b < d) (hb : k ≤ b) : a + k < d := by omega
/-- a contract where the seventh place may be there or not, before the call and behind it -/
noncomputable def MethT (w : World) (D U : Nat) (f : Addr) (args : List Value) (cur : Str) (c lim lb bra ket : Int) (p1 : Option Int) (pre : Prop) (Out : (Value → Str → Int → Int → Int → Int → Int → Option Int → Prop) → Prop) : Prop :=
  ∃ pre₀ post, Meth w D U f args pre₀ post ∧ (pre → pre₀ ⟨cur, c, lim, lb, bra, ket, p1⟩) ∧ ∀ K, Out K → ∀ r σ', post ⟨cur, c, lim, lb, bra, ket, p1⟩ r σ' → ∃ cur' c' lim' lb' bra' ket' p1', σ' = ⟨cur', c', lim', lb', bra', ket', p1'⟩ ∧ K r cur' c' lim' lb' bra' ket' p1'
theorem MethT.use {w : World} {D U : Nat} {f : Addr} {args : List Value} {cur : Str} {c lim lb bra ket : Int} {p1 : Option Int} {pre : Prop} {Out : (Value → Str → Int → Int → Int → Int → Int → Option Int → Prop) → Prop} (S : MethT w D U f args cur c lim lb bra ket p1 pre Out)
    {mean : ExcName → Option Value} {mg mb : Str → Option Value} {A₀ A : Around} {base h₀ : Heap} {env : Env} {outer : List Env} {L : Addr} {m : Str → Option Value} {s : Shared} {x dx : Addr} {o : Obj} {news : List (Addr × Obj)} {g : Obj → List (Addr × Obj)} {Q E : Value → Shared → Prop}
    (F : Fr h₀ L s.heap m) (B : Below A₀ base outer h₀) (X : (KF w.params).In h₀) (N : News h₀ L s.heap news) (T : Top vq (looseW vq vloose) mean mg mb h₀) (XB : (KF w.params).In base) (TB : Top vq (looseW vq vloose) mean mg mb base)
    (hx : (x, instObj 494 dx) ∈ news) (Up : UpdF dx o news g) (hσ : DictIs w.params ⟨cur, c, lim, lb, bra, ket, p1⟩ o) (hA : A.frames = some (env :: outer)) (hf : env.frame = some L) (hk : env.scope.kind = .function) (hd : A.depth + D < recursionLimit) (hu : A.units + U < cLine) (hp : pre)
    (hQ : Out fun r cur' c' lim' lb' bra' ket' p1' => ∀ (κ : Nat → Tok) tl nn h' tk', DictT w.params p1' tl nn → Fr h₀ L h' m → News h₀ L h' (g (dictOf (⟨PyData.keyHash w.params (Str.ofString "current"), .str (Str.ofString "current") (κ 0), .str cur' (κ 6)⟩ :: ⟨PyData.keyHash w.params (Str.ofString "cursor"), .str (Str.ofString "cursor") (κ 1), .int c' (κ 7)⟩ :: ⟨PyData.keyHash w.params (Str.ofString "limit"), .str (Str.ofString "limit") (κ 2), .int lim' (κ 8)⟩ :: ⟨PyData.keyHash w.params (Str.ofString "limit_backward"), .str (Str.ofString "limit_backward") (κ 3), .int lb' (κ 9)⟩ :: ⟨PyData.keyHash w.params (Str.ofString "bra"), .str (Str.ofString "bra") (κ 4), .int bra' (κ 10)⟩ :: ⟨PyData.keyHash w.params (Str.ofString "ket"), .str (Str.ofString "ket") (κ 5), .int ket' (κ 11)⟩ :: tl) nn)) → Q r { s with heap := h', toks := tk' }) :
    wpAny (model pw w) A (call (.ref f) (.ref x :: args)) Q E s := by
  obtain ⟨pre₀, post, M, h1, h2⟩ := S
  refine M.use B F X N T XB TB hx Up hA hf hk hd hu hσ (h1 hp) ?_
  intro r σ' o' h' tk' a b e1 e2
  obtain ⟨cur', c', lim', lb', bra', ket', p1', rfl, hK⟩ := h2 _ hQ r σ' b
  obtain ⟨κ, tl, nn, rfl, hT⟩ := dict_tail a
  exact hK κ tl nn h' tk' hT e1 e2
/-- a contract where the seventh place may be there or not before the call; behind it, it is there -/
noncomputable def MethCT (w : World) (D U : Nat) (f : Addr) (args : List Value) (cur : Str) (c lim lb bra ket : Int) (p1 : Option Int) (pre : Prop) (Out : (Value → Str → Int → Int → Int → Int → Int → Int → Prop) → Prop) : Prop :=
  ∃ pre₀ post, MethC w D U f args pre₀ post ∧ (pre → pre₀ ⟨cur, c, lim, lb, bra, ket, p1⟩) ∧ ∀ K, Out K → ∀ r σ', post ⟨cur, c, lim, lb, bra, ket, p1⟩ r σ' → ∃ cur' c' lim' lb' bra' ket' p1', σ' = ⟨cur', c', lim', lb', bra', ket', some p1'⟩ ∧ K r cur' c' lim' lb' bra' ket' p1'
theorem MethCT.use {w : World} {D U : Nat} {f : Addr} {args : List Value} {cur : Str} {c lim lb bra ket : Int} {p1 : Option Int} {pre : Prop} {Out : (Value → Str → Int → Int → Int → Int → Int → Int → Prop) → Prop} (S : MethCT w D U f args cur c lim lb bra ket p1 pre Out)
    {mean : ExcName → Option Value} {mg mb : Str → Option Value} {A₀ A : Around} {base h₀ : Heap} {env : Env} {outer : List Env} {L : Addr} {m : Str → Option Value} {s : Shared} {x dx : Addr} {o : Obj} {news : List (Addr × Obj)} {g : Obj → List (Addr × Obj)} {Q E : Value → Shared → Prop} {g₀ : Heap}
    (F : Fr h₀ L s.heap m) (B : Below A₀ base outer h₀) (X : (KF w.params).In h₀) (N : News h₀ L s.heap news) (T : Top vq (looseW vq vloose) mean mg mb h₀) (XB : (KF w.params).In base) (TB : Top vq (looseW vq vloose) mean mg mb base) (Dk : KtsDicts (frs outer) h₀) (T0 : KtsTurn (frs outer) g₀ h₀) (hh : A.handled = none)
    (hx : (x, instObj 494 dx) ∈ news) (Up : UpdF dx o news g) (hσ : DictIs w.params ⟨cur, c, lim, lb, bra, ket, p1⟩ o) (hA : A.frames = some (env :: outer)) (hf : env.frame = some L) (hk : env.scope.kind = .function) (hd : A.depth + D < recursionLimit) (hu : A.units + U < cLine) (hp : pre)
    (hQ : Out fun r cur' c' lim' lb' bra' ket' p1' => ∀ (κ : Nat → Tok) h' tk' h₀', KtsTurn (frs outer) g₀ h₀' → Fr h₀' L h' m → News h₀' L h' (g (dictOf [⟨PyData.keyHash w.params (Str.ofString "current"), .str (Str.ofString "current") (κ 0), .str cur' (κ 7)⟩, ⟨PyData.keyHash w.params (Str.ofString "cursor"), .str (Str.ofString "cursor") (κ 1), .int c' (κ 8)⟩, ⟨PyData.keyHash w.params (Str.ofString "limit"), .str (Str.ofString "limit") (κ 2), .int lim' (κ 9)⟩, ⟨PyData.keyHash w.params (Str.ofString "limit_backward"), .str (Str.ofString "limit_backward") (κ 3), .int lb' (κ 10)⟩, ⟨PyData.keyHash w.params (Str.ofString "bra"), .str (Str.ofString "bra") (κ 4), .int bra' (κ 11)⟩, ⟨PyData.keyHash w.params (Str.ofString "ket"), .str (Str.ofString "ket") (κ 5), .int ket' (κ 12)⟩, ⟨PyData.keyHash w.params (Str.ofString "I_p1"), .str (Str.ofString "I_p1") (κ 6), .int p1' (κ 13)⟩] 7)) → Below A₀ base outer h₀' → (KF w.params).In h₀' → Top vq (looseW vq vloose) mean mg mb h₀' → KtsDicts (frs outer) h₀' → Q r { s with heap := h', toks := tk' }) :
    wpAny (model pw w) A (call (.ref f) (.ref x :: args)) Q E s := by
  obtain ⟨pre₀, post, M, h1, h2⟩ := S
  refine M.use B F X N T XB TB Dk T0 hh hx Up hA hf hk hd hu hσ (h1 hp) ?_
  intro r σ' o' h' tk' h₀' a b e1 e2 e3 e4 e5 e6 e7
  obtain ⟨cur', c', lim', lb', bra', ket', p1', rfl, hK⟩ := h2 _ hQ r σ' b
  obtain ⟨κ, rfl⟩ := kap7 a
  exact hK κ h' tk' h₀' e1 e2 e3 e4 e5 e6 e7
end
-- P1
section

noncomputable def lexle : List Nat → List Nat → Bool
  | [], _ => true
  | _ :: _, [] => false
  | x :: a, y :: b => decide (x < y) || (x == y && lexle a b)

theorem lexle_refl : ∀ a, lexle a a = true
  | [] => rfl
  | x :: a => by simp [lexle, lexle_refl a]
theorem lexle_total : ∀ a b, lexle a b = false → lexle b a = true
  | [], _, h => by simp [lexle] at h
  | x :: a, [], _ => rfl
  | x :: a, y :: b, h => by
    simp only [lexle, Bool.or_eq_false_iff, decide_eq_false_iff_not, Bool.and_eq_false_iff] at h
    simp only [lexle, Bool.or_eq_true, decide_eq_true_eq, Bool.and_eq_true, beq_iff_eq]
    rcases h with ⟨h1, h2⟩
    rcases Nat.lt_trichotomy x y with h | h | h
    · exact absurd h h1
    · subst h
      rcases h2 with h2 | h2
      · simp at h2
      · exact .inr ⟨rfl, lexle_total a b h2⟩
    · exact .inl h
theorem lexle_trans : ∀ {a b c : List Nat}, lexle a b = true → lexle b c = true → lexle a c = true
  | [], _, _, _, _ => rfl
  | x :: a, [], _, h, _ => by simp [lexle] at h
  | x :: a, y :: b, [], _, h => by simp [lexle] at h
  | x :: a, y :: b, z :: c, h1, h2 => by
    simp only [lexle, Bool.or_eq_true, decide_eq_true_eq, Bool.and_eq_true, beq_iff_eq] at h1 h2 ⊢
    rcases h1 with h1 | ⟨rfl, h1⟩
    · rcases h2 with h2 | ⟨rfl, h2⟩
      · exact .inl (by lia)
      · exact .inl h1
    · rcases h2 with h2 | ⟨rfl, h2⟩
      · exact .inl h2
      · exact .inr ⟨rfl, lexle_trans h1 h2⟩
theorem lexle_pre : ∀ {a b : List Nat}, a <+: b → lexle a b = true
  | [], _, _ => rfl
  | x :: a, b, h => by
    obtain ⟨t, rfl⟩ := h
    have ih : lexle a (a ++ t) = true := lexle_pre ⟨t, rfl⟩
    simp [lexle, ih]
theorem sandwich : ∀ {p a b c : List Nat}, lexle a b = true → lexle b c = true → p <+: a → p <+: c → p <+: b
  | [], _, _, _, _, _, _, _ => List.nil_prefix
  | x :: p, a, b, c, h1, h2, ⟨ta, ea⟩, ⟨tc, ec⟩ => by
    subst ea; subst ec
    cases b with
    | nil => simp [lexle] at h1
    | cons y b =>
      simp only [List.cons_append, lexle, Bool.or_eq_true, decide_eq_true_eq, Bool.and_eq_true, beq_iff_eq] at h1 h2
      have hxy : x = y := by
        rcases h1 with h1 | ⟨rfl, h1⟩ <;> rcases h2 with h2 | ⟨e, h2⟩ <;> first | lia | rfl
      subst hxy
      rcases h1 with h1 | ⟨_, h1⟩
      · lia
      rcases h2 with h2 | ⟨_, h2⟩
      · lia
      obtain ⟨t, e⟩ := sandwich h1 h2 ⟨ta, rfl⟩ ⟨tc, rfl⟩
      exact ⟨t, by rw [List.cons_append, e]⟩

/-- m signs in common -/
noncomputable def Com (K R : List Nat) (m : Nat) : Prop := m ≤ K.length ∧ m ≤ R.length ∧ K.take m = R.take m
noncomputable def Max (K R : List Nat) (m : Nat) : Prop := Com K R m ∧ ∀ p, p <+: K → p <+: R → p.length ≤ m

theorem Com.zero (K R : List Nat) : Com K R 0 := ⟨Nat.zero_le _, Nat.zero_le _, rfl⟩
theorem Com.pre {K R : List Nat} {m k : Nat} (h : Com K R m) (hk : k ≤ m) : R.take k <+: K := by
  have : R.take k = K.take k := by
    have := congrArg (List.take k) h.2.2
    simpa [List.take_take, Nat.min_eq_left hk] using this.symm
  rw [this]
  exact List.take_prefix _ _
theorem Com.of_pre {K R : List Nat} {k : Nat} (hk : k ≤ R.length) (h : R.take k <+: K) : Com K R k := by
  have hl := h.length_le
  rw [List.length_take, Nat.min_eq_left hk] at hl
  refine ⟨hl, hk, ?_⟩
  have := List.prefix_iff_eq_take.mp h
  rw [List.length_take, Nat.min_eq_left hk] at this
  exact this.symm
theorem Com.step {K R : List Nat} {m : Nat} (h : Com K R m) (h1 : m < K.length) (h2 : m < R.length) (e : R[m] = K[m]) : Com K R (m + 1) := by
  refine ⟨h1, h2, ?_⟩
  rw [← List.take_append_getElem h1, ← List.take_append_getElem h2, h.2.2, e]
theorem com_split {K R : List Nat} {m : Nat} (h : Com K R m) : K = R.take m ++ K.drop m ∧ R = R.take m ++ R.drop m :=
  ⟨by rw [← h.2.2, List.take_append_drop], (List.take_append_drop m R).symm⟩
theorem lexle_app : ∀ (p a b : List Nat), lexle (p ++ a) (p ++ b) = lexle a b
  | [], _, _ => rfl
  | x :: p, a, b => by simp [lexle, lexle_app p a b]
theorem Com.lexle_ {K R : List Nat} {m : Nat} (h : Com K R m) : lexle K R = lexle (K.drop m) (R.drop m) := by
  obtain ⟨e1, e2⟩ := com_split h
  calc lexle K R = lexle (R.take m ++ K.drop m) (R.take m ++ R.drop m) := by rw [← e1, ← e2]
    _ = _ := lexle_app _ _ _
/-- the text ends first -/
theorem Com.short {K R : List Nat} {m : Nat} (h : Com K R m) (h1 : m < K.length) (h2 : m = R.length) : lexle K R = false := by
  rw [h.lexle_, List.drop_eq_getElem_cons h1, List.drop_eq_nil_of_le (Nat.le_of_eq h2.symm)]
  rfl
theorem Com.less {K R : List Nat} {m : Nat} (h : Com K R m) (h1 : m < K.length) (h2 : m < R.length) (e : R[m] < K[m]) : lexle K R = false := by
  rw [h.lexle_, List.drop_eq_getElem_cons h1, List.drop_eq_getElem_cons h2]
  have a1 : ¬ K[m] < R[m] := by lia
  have a2 : (K[m] == R[m]) = false := by rw [beq_eq_false_iff_ne]; lia
  simp [lexle, a1, a2]
theorem max_of {K R : List Nat} {m : Nat} (h : Com K R m) (hx : ∀ (h1 : m < K.length) (h2 : m < R.length), K[m] ≠ R[m]) : Max K R m := by
  refine ⟨h, fun p hp hq => ?_⟩
  rcases Nat.lt_or_ge m p.length with hlt | hge
  · exfalso
    obtain ⟨t, rfl⟩ := hp
    obtain ⟨u, hu⟩ := hq
    subst hu
    have h1 : m < (p ++ t).length := by simp; lia
    have h2 : m < (p ++ u).length := by simp; lia
    refine hx h1 h2 ?_
    rw [List.getElem_append_left hlt, List.getElem_append_left hlt]
  · exact hge
theorem Com.more {K R : List Nat} {m : Nat} (h : Com K R m) (h1 : m < K.length) (h2 : m < R.length) (e : K[m] < R[m]) : lexle K R = true ∧ Max K R m := by
  refine ⟨?_, max_of h fun _ _ => by omega⟩
  rw [h.lexle_, List.drop_eq_getElem_cons h1, List.drop_eq_getElem_cons h2]
  simp [lexle, e]
theorem Com.all {K R : List Nat} {m : Nat} (h : Com K R m) (h1 : m = K.length) : lexle K R = true ∧ Max K R m := by
  refine ⟨?_, max_of h fun h2 _ => by lia⟩
  rw [h.lexle_, List.drop_eq_nil_of_le (Nat.le_of_eq h1.symm)]
  rfl

/-- a table in order, with its chains -/
structure TabOk (n : Nat) (rk : Nat → List Nat) (U : Nat → Int) : Prop where
  sorted : ∀ i j, i < j → j < n → lexle (rk i) (rk j) = true
  below : ∀ i, i < n → U i < i ∧ (0 ≤ U i → rk (U i).toNat <+: rk i)
  chain : ∀ i M, i < n → M < n → rk M <+: rk i → M = i ∨ (0 ≤ U i ∧ rk M <+: rk (U i).toNat)

section
variable {n : Nat} {rk : Nat → List Nat} {U : Nat → Int} {R : List Nat} (T : TabOk n rk U)
include T
theorem TabOk.mono {i j : Nat} (h : i ≤ j) (hj : j < n) : lexle (rk i) (rk j) = true := by
  rcases Nat.lt_or_ge i j with h' | h'
  · exact T.sorted i j h' hj
  · obtain rfl : i = j := by lia
    exact lexle_refl _

/-- what two neighbours have in common with the text, what lies between them has -/
theorem TabOk.between {i j k ci cj : Nat} (hik : i ≤ k) (hkj : k ≤ j) (hj : j < n) (a : Com (rk i) R ci) (b : Com (rk j) R cj) : Com (rk k) R (min ci cj) := by
  refine Com.of_pre (Nat.le_trans (Nat.min_le_left _ _) a.2.1) (sandwich (T.mono hik (by lia)) (T.mono hkj hj) (a.pre (Nat.min_le_left _ _)) (b.pre (Nat.min_le_right _ _)))

/-- the place that the search ends at -/
noncomputable def Fin2 (n : Nat) (rk : Nat → List Nat) (R : List Nat) (i ci : Nat) : Prop :=
  i < n ∧ ((lexle (rk i) R = true ∧ Max (rk i) R ci ∧ (i + 1 = n ∨ lexle (rk (i + 1)) R = false)) ∨ (i = 0 ∧ ci = 0 ∧ lexle (rk 0) R = false))

/-- what the second loop keeps -/
noncomputable def Chn (n : Nat) (rk : Nat → List Nat) (R : List Nat) (ci i : Nat) : Prop :=
  i < n ∧ (∃ B, Com B R ci ∧ rk i <+: B) ∧ ∀ M, M < n → rk M <+: R → rk M <+: rk i ∧ (rk M).length ≤ ci

theorem TabOk.start {i ci : Nat} (h : Fin2 n rk R i ci) : Chn n rk R ci i := by
  obtain ⟨hi, h⟩ := h
  rcases h with ⟨h1, h2, h3⟩ | ⟨rfl, rfl, h3⟩
  · refine ⟨hi, ⟨_, h2.1, List.prefix_refl _⟩, fun M hM hp => ?_⟩
    · have hMi : M ≤ i := by
        rcases Nat.lt_or_ge i M with h | h
        · exfalso
          have hn : i + 1 ≠ n := by lia
          have h3' := h3.resolve_left hn
          have := lexle_trans (T.mono (show i + 1 ≤ M from h) hM) (lexle_pre hp)
          rw [this] at h3'
          cases h3'
        · exact h
      have hpi : rk M <+: rk i := sandwich (T.mono hMi hi) h1 (List.prefix_refl _) hp
      exact ⟨hpi, h2.2 _ hpi hp⟩
  · refine ⟨hi, ⟨_, Com.zero (rk 0) R, List.prefix_refl _⟩, fun M hM hp => ?_⟩
    exfalso
    have := lexle_trans (T.mono (Nat.zero_le M) hM) (lexle_pre hp)
    rw [this] at h3
    cases h3

omit T in
theorem Chn.hit {i ci : Nat} (h : Chn n rk R ci i) (hc : (rk i).length ≤ ci) : rk i <+: R ∧ ∀ M, M < n → rk M <+: R → (rk M).length ≤ (rk i).length := by
  obtain ⟨hi, ⟨B, h1, h1'⟩, h2⟩ := h
  refine ⟨?_, fun M hM hp => (h2 M hM hp).1.length_le⟩
  have e1 := List.prefix_iff_eq_take.mp h1'
  have e2 := congrArg (List.take (rk i).length) h1.2.2
  rw [List.take_take, List.take_take, Nat.min_eq_left hc, ← e1] at e2
  rw [e2]
  exact List.take_prefix _ _
theorem TabOk.step {i ci : Nat} (h : Chn n rk R ci i) (hc : ci < (rk i).length) : (U i < 0 ∧ ∀ M, M < n → ¬ rk M <+: R) ∨ (0 ≤ U i ∧ U i < i ∧ Chn n rk R ci (U i).toNat) := by
  obtain ⟨hi, ⟨B, h1, h1'⟩, h2⟩ := h
  have hb := T.below i hi
  have key : ∀ M, M < n → rk M <+: R → 0 ≤ U i ∧ rk M <+: rk (U i).toNat := fun M hM hp => by
    obtain ⟨a, b⟩ := h2 M hM hp
    rcases T.chain i M hi hM a with rfl | h
    · lia
    · exact h
  rcases Int.lt_or_le (U i) 0 with hu | hu
  · exact .inl ⟨hu, fun M hM hp => by have := (key M hM hp).1; lia⟩
  · refine .inr ⟨hu, hb.1, by lia, ⟨B, h1, (hb.2 hu).trans h1'⟩, fun M hM hp => ⟨(key M hM hp).2, (h2 M hM hp).2⟩⟩
end
end
-- P2
section
open PySem PySem.W PySem.Calls PyProof.Rows PySem.Spec

theorem Com.step' {K R : List Nat} {m x : Nat} (h : Com K R m) (h1 : K[m]? = some x) (h2 : R[m]? = some x) : Com K R (m + 1) := by
  obtain ⟨a1, e1⟩ := List.getElem?_eq_some_iff.mp h1
  obtain ⟨a2, e2⟩ := List.getElem?_eq_some_iff.mp h2
  exact h.step a1 a2 (by rw [e1, e2])
theorem Com.less' {K R : List Nat} {m x y : Nat} (h : Com K R m) (h1 : K[m]? = some x) (h2 : R[m]? = some y) (e : y < x) : lexle K R = false := by
  obtain ⟨a1, e1⟩ := List.getElem?_eq_some_iff.mp h1
  obtain ⟨a2, e2⟩ := List.getElem?_eq_some_iff.mp h2
  exact h.less a1 a2 (by rw [e1, e2]; exact e)
theorem Com.more' {K R : List Nat} {m x y : Nat} (h : Com K R m) (h1 : K[m]? = some x) (h2 : R[m]? = some y) (e : x < y) : lexle K R = true ∧ Max K R m := by
  obtain ⟨a1, e1⟩ := List.getElem?_eq_some_iff.mp h1
  obtain ⟨a2, e2⟩ := List.getElem?_eq_some_iff.mp h2
  exact h.more a1 a2 (by rw [e1, e2]; exact e)

noncomputable def revOf (cur : Str) (lb c : Int) : List Nat := ((cur.cps.toList.take c.toNat).drop lb.toNat).reverse
noncomputable def rkOf (K : Nat → Str) (k : Nat) : List Nat := (K k).cps.toList.reverse
theorem tn_sub {a b : Int} (h0 : 0 ≤ b) (h1 : b ≤ a) : a.toNat - b.toNat = (a - b).toNat := by
  obtain ⟨m, rfl⟩ := Int.eq_ofNat_of_zero_le h0
  obtain ⟨n, rfl⟩ := Int.eq_ofNat_of_zero_le (Int.le_trans h0 h1)
  exact (Int.toNat_sub n m).symm
theorem len_rev {cur : Str} {lb c : Int} (h0 : 0 ≤ lb) (h1 : lb ≤ c) (h2 : c ≤ cur.length) : (revOf cur lb c).length = (c - lb).toNat := by
  unfold revOf
  rw [List.length_reverse, List.length_drop, List.length_take, Array.length_toList]
  show min c.toNat cur.length - lb.toNat = _
  rw [Nat.min_eq_left (Int.toNat_le.mpr h2), tn_sub h0 h1]
theorem len_rk (K : Nat → Str) (k : Nat) : (rkOf K k).length = (K k).length := by
  simp [rkOf, Str.length]

/-- the sign's number at a place -/
noncomputable def codeAt (x : Str) (i : Int) : Nat := (Txt.item x i).cps.getD 0 0
theorem codeAt_ {x : Str} {i : Int} (h0 : 0 ≤ i) (h1 : i < x.length) : x.cps.toList[i.toNat]? = some (codeAt x i) := by
  have hs : x.length = x.cps.size := rfl
  have hc : Txt.charAt x i = x.cps[i.toNat]? := by
    unfold Txt.charAt seqIndex?
    simp only [show ¬ i < 0 by lia, if_false, decide_eq_true h0, Bool.true_and, decide_eq_true h1, if_true, Option.bind_some]
  have hlt : i.toNat < x.cps.size := by lia
  have e : x.cps[i.toNat]? = some x.cps[i.toNat] := Array.getElem?_eq_getElem hlt
  have : codeAt x i = x.cps[i.toNat] := by
    unfold codeAt Txt.item
    rw [hc, e]
    rfl
  rw [this, Array.getElem?_toList, e]
theorem rev_at {cur : Str} {lb c t : Int} (h0 : 0 ≤ lb) (h2 : c ≤ cur.length) (h3 : 0 ≤ t) (h4 : t < c - lb) : (revOf cur lb c)[t.toNat]? = some (codeAt cur (c - 1 - t)) := by
  have h1 : lb ≤ c := by omega
  have hl := len_rev (cur := cur) h0 h1 h2
  have e := codeAt_ (x := cur) (i := c - 1 - t) (by omega) (by omega)
  unfold revOf at hl ⊢
  rw [List.length_reverse] at hl
  obtain ⟨lb, rfl⟩ := Int.eq_ofNat_of_zero_le h0
  obtain ⟨c, rfl⟩ := Int.eq_ofNat_of_zero_le (Int.le_trans h0 h1)
  obtain ⟨t, rfl⟩ := Int.eq_ofNat_of_zero_le h3
  rw [Int.toNat_sub] at hl
  simp only [Int.toNat_natCast] at hl e ⊢
  have ht : t < c - lb := by omega
  rw [List.getElem?_reverse (by rw [hl]; exact ht), hl, List.getElem?_drop, List.getElem?_take_of_lt (by omega), ← e]
  congr 1
  omega
theorem rk_at {K : Nat → Str} {k : Nat} {t : Int} (h3 : 0 ≤ t) (h4 : t < (K k).length) : (rkOf K k)[t.toNat]? = some (codeAt (K k) ((K k).length - 1 - t)) := by
  have hs : (K k).length = (K k).cps.size := rfl
  unfold rkOf
  rw [List.getElem?_reverse (by rw [Array.length_toList]; lia), Array.length_toList]
  rw [← codeAt_ (x := K k) (i := (K k).length - 1 - t) (by lia) (by lia)]
  congr 1
  lia

/-- what the first loop keeps -/
structure OutInv (n : Nat) (rk : Nat → List Nat) (R : List Nat) (i j ci cj : Int) (fi : Bool) : Prop where
  bounds : 0 ≤ i ∧ i < j ∧ j ≤ n ∧ 0 ≤ ci ∧ ci ≤ 1000 ∧ 0 ≤ cj ∧ cj ≤ 1000
  turn : (2 ≤ j - i ∧ fi = false) ∨ (i = 0 ∧ j = 1 ∧ fi = true)
  left : (i = 0 ∧ ci = 0) ∨ (0 < i ∧ lexle (rk i.toNat) R = true ∧ Max (rk i.toNat) R ci.toNat)
  right : (j = n ∧ cj = 0) ∨ (j < n ∧ lexle (rk j.toNat) R = false ∧ Com (rk j.toNat) R cj.toNat)
theorem OutInv.start (n : Nat) (rk : Nat → List Nat) (R : List Nat) (h : 2 ≤ n) : OutInv n rk R 0 n 0 0 false :=
  ⟨by lia, .inl ⟨by lia, rfl⟩, .inl ⟨rfl, rfl⟩, .inl ⟨rfl, rfl⟩⟩
section
variable {n : Nat} {rk : Nat → List Nat} {U : Nat → Int} {R : List Nat} {i j ci cj mn kk co : Int} {fi : Bool}
theorem OutInv.comm (T : TabOk n rk U) (I : OutInv n rk R i j ci cj fi) (h1 : mn = ci ∨ mn = cj) (h2 : mn ≤ ci) (h3 : mn ≤ cj) (h4 : i ≤ kk) (h5 : kk < j) :
    0 ≤ mn ∧ Com (rk kk.toNat) R mn.toNat := by
  obtain ⟨z1, z2, z3, z4, z5, z6, z7⟩ := I.bounds
  have h0 : 0 ≤ mn := by lia
  refine ⟨h0, ?_⟩
  rcases I.left with ⟨a1, a2⟩ | ⟨a1, a2, a3⟩
  · rw [show mn.toNat = 0 by lia]; exact Com.zero _ _
  rcases I.right with ⟨b1, b2⟩ | ⟨b1, b2, b3⟩
  · rw [show mn.toNat = 0 by lia]; exact Com.zero _ _
  have := T.between (i := i.toNat) (j := j.toNat) (k := kk.toNat) (by lia) (by lia) (by lia) a3.1 b3
  rwa [show min ci.toNat cj.toNat = mn.toNat by lia] at this

/-- the text comes first: the right end moves -/
theorem OutInv.low (I : OutInv n rk R i j ci cj fi) (hkk : kk = i + (j - i) / 2) (h0 : 0 ≤ co) (h1 : co ≤ 1000) (hl : lexle (rk kk.toNat) R = false) (hc : Com (rk kk.toNat) R co.toNat) :
    (2 ≤ kk - i ∧ fi = false → OutInv n rk R i kk ci co fi) ∧ (kk - i ≤ 1 → (i > 0 → Fin2 n rk R i.toNat ci.toNat) ∧ (i ≤ 0 → kk = i → Fin2 n rk R i.toNat ci.toNat) ∧ (i ≤ 0 → kk ≠ i → fi = false ∧ OutInv n rk R i kk ci co true)) := by
  obtain ⟨z1, z2, z3, z4, z5, z6, z7⟩ := I.bounds
  refine ⟨fun ⟨a, b⟩ => ⟨by lia, .inl ⟨a, b⟩, I.left, .inr ⟨by lia, hl, hc⟩⟩, fun ha => ⟨fun hi => ?_, fun hi hk => ?_, fun hi hk => ?_⟩⟩
  · have hL := I.left.resolve_left (by lia)
    have hk : kk = i + 1 := by
      rcases I.turn with ⟨q, _⟩ | ⟨q, _⟩ <;> lia
    refine ⟨by lia, .inl ⟨hL.2.1, hL.2.2, .inr ?_⟩⟩
    rw [show i.toNat + 1 = kk.toNat by lia]; exact hl
  · have hL := (I.left.resolve_right (by lia)).2
    refine ⟨by lia, .inr ⟨by lia, by lia, ?_⟩⟩
    rw [show kk.toNat = 0 by lia] at hl; exact hl
  · have hf : fi = false := by
      rcases I.turn with ⟨_, q⟩ | ⟨q, q2, _⟩
      · exact q
      · lia
    exact ⟨hf, by lia, .inr ⟨by lia, by lia, rfl⟩, I.left, .inr ⟨by lia, hl, hc⟩⟩
/-- the key comes first: the left end moves -/
theorem OutInv.high (I : OutInv n rk R i j ci cj fi) (hn : 2 ≤ n) (hkk : kk = i + (j - i) / 2) (h0 : 0 ≤ co) (h1 : co ≤ 1000) (hl : lexle (rk kk.toNat) R = true) (hc : Max (rk kk.toNat) R co.toNat) :
    (2 ≤ j - kk → OutInv n rk R kk j co cj fi) ∧ (j - kk ≤ 1 → (kk > 0 → Fin2 n rk R kk.toNat co.toNat) ∧ j ≠ kk ∧ (kk ≤ 0 → fi = true ∧ Fin2 n rk R kk.toNat co.toNat)) := by
  obtain ⟨z1, z2, z3, z4, z5, z6, z7⟩ := I.bounds
  have fin : j - kk ≤ 1 → Fin2 n rk R kk.toNat co.toNat := fun ha => by
    refine ⟨by lia, .inl ⟨hl, hc, ?_⟩⟩
    rcases I.right with ⟨b1, b2⟩ | ⟨b1, b2, b3⟩
    · left; lia
    · right; rw [show kk.toNat + 1 = j.toNat by lia]; exact b2
  refine ⟨fun ha => ⟨by lia, .inl ⟨ha, ?_⟩, .inr ⟨?_, hl, hc⟩, I.right⟩, fun ha => ⟨fun _ => fin ha, by lia, fun hk => ⟨?_, fin ha⟩⟩⟩
  · rcases I.turn with ⟨_, q⟩ | ⟨q, q2, _⟩
    · exact q
    · lia
  · rcases I.turn with ⟨q, _⟩ | ⟨q, q2, _⟩ <;> lia
  · rcases I.turn with ⟨q, _⟩ | ⟨q, q2, q3⟩
    · lia
    · exact q3
end
end
section
open PySem PySem.W PySem.Calls PyProof.Rows PySem.Spec
local macro_rules | `(tactic| walk_at "m_steps") => `(tactic| repeat' ((fail_if_success (with_reducible show Stop _)); (fail_if_success (with_reducible show InvEndN _ _ _ _ _ _ _)); first | (k_unfold; (try dsimp only)) | (dsimp only; (with_reducible show Stop _)) | walk1 | (dsimp only; walk1) | (leave1; (try dsimp only)) | fail "no step"))
set_option hygiene false in
local macro_rules | `(tactic| walk_at "eT") => `(tactic| (refine' code_defT ?zk1 ?zk2 ?zk3 ?zk4 ?zk5 ?zXB ?zTB ?zD ?zkA ?zkF ?zkK ?zk6 ?zk7 ?zk8 ?zk9 ?zkB ?_ ?zc2 ?zc3 ?zc4 ?zc5; (case zkA | zkF | zkK => k_all); (case zk2 | zk1 | zk3 | zk4 | zk5 | zXB | zTB | zD => k_asm); walk_at "eC"))
local macro_rules | `(tactic| walk_at "m_enterT") => `(tactic| (refine wpAny_call ?_; k_dflt (walk_at "eT"; intro _ _ _ _ _ _ _ _ _ _; (try dsimp only); (try k_fold))))
set_option hygiene false in
local macro_rules | `(tactic| walk_at "LeaveT") => `(tactic| (k_dflt (refine' leaveT_ ?zF ?zN ?zT ?_; (case zF | zN => k_asm); (case zT => walk_at "T0"); k_whole); intro _ _ _ _ _ _ _ _))
set_option hygiene false in
local macro_rules | `(tactic| walk_at "exec Raise some none") => `(tactic| (k_here; k_dflt (refine' Raise_own0 ?zF ?zg ?zO PySem.F.excBase_Exception ?zh ?_ ?zc ?zd ?ze; (case zF => k_asm); (case zg => exact TopRead.g (by k_asm)); (case zO => exact own_of_in (by k_asm) (by k_asm) (by k_is) (by k_exc)); (case zh => walk_at "hh"); (case zc | zd => rfl); (case ze => decide); k_whole); intro _ _ _; (try dsimp only)))
set_option hygiene false in
local macro_rules | `(tactic| walk_at "noteFrame ref") => `(tactic| (k_here; (rename Heap.MadeExcOf _ _ _ _ _ => hmy); k_dflt (refine' caught_here hmy ?zF ?zN ?zK ?zXB ?zTB ?zD ?zT0 ?zex ?zq ?_; (case zF | zN | zK | zXB | zTB | zD => k_asm); (case zT0 => walk_at "T0"); (case zex => k_is); (case zq => kts_isx); k_whole); clear hmy; intro _ _ _ _ _ _ _ _ _; (try dsimp only); (try k_sweep)))
set_option hygiene false in
local macro_rules | `(tactic| walk_at "g7") => `(tactic| ((case F | B | X | N | T | XB | TB => k_asm); (case hx => k_mem); (case Up => k_updF); (case hA => exact Around.frames_deeper (by k_all)); (case hf | hk => exact rfl); (case hd => (simp only [depth_deeper, depth_in1]; first | with_reducible exact lt_dep1 (by with_reducible assumption) (by decide) | with_reducible exact lt_dep0 (by with_reducible assumption) (by decide) | omega)); (case hu => (simp only [units_deeper, units_in1]; first | with_reducible exact lt_dep1 (by with_reducible assumption) (by decide) | with_reducible exact lt_dep0 (by with_reducible assumption) (by decide) | omega))))
set_option hygiene false in
local macro_rules | `(tactic| walk_at "gM") => `(tactic| ((case hp => repeat' (first | with_reducible apply And.intro | with_reducible assumption | exact True.intro | omega)); k_whole))
set_option hygiene false in
local macro_rules | `(tactic| walk_at "o7") => `(tactic| ((repeat' (with_reducible apply And.intro)) <;> ((repeat (with_reducible intro _)); (try k_sweep))))
set_option hygiene false in
local macro_rules | `(tactic| walk_at "gC") => `(tactic| ((case Dk => k_asm); (case T0 => walk_at "T0"); (case hh => walk_at "hh"); walk_at "gM"))
-- W8
section
open PySem PySem.W PySem.Calls PyProof.Rows PySem.Spec

theorem c_go_out_grouping (w : World) (a : Addr) (xs : List (Nat × Tok)) (hS : SetAt w a xs) {cur : Str} {c lim lb bra ket p1 : Int} : Meth7 w 2 20 98 [.ref a] cur c lim lb bra ket p1 (0 ≤ lb ∧ c ≤ cur.length ∧ cur.length ≤ 1000 ∧ 0 ≤ c ∧ c ≤ lim ∧ lim = cur.length)
    (fun K => (∀ cc, c ≤ cc → cc ≤ lim → (∀ j, c ≤ j → j < cc → memOf xs (Txt.item cur j) = false) → cc < lim → memOf xs (Txt.item cur cc) = true → K (.bool true) cur cc lim lb bra ket p1) ∧
      (∀ cc, c ≤ cc → cc ≤ lim → (∀ j, c ≤ j → j < cc → memOf xs (Txt.item cur j) = false) → cc = lim → K (.bool false) cur cc lim lb bra ket p1)) := by
  refine ⟨_, _, m_go_out_grouping w a xs hS, fun ⟨a, b, d, e, f, g⟩ => ⟨⟨a, b, d, e⟩, rfl, f, g⟩, ?_⟩
  rintro K ⟨q1, q2⟩ r σ' ⟨cc, rfl, g1, g2, g3, (⟨g4, g5, rfl⟩ | ⟨g4, rfl⟩)⟩
  · exact ⟨_, _, _, _, _, _, _, rfl, q1 cc g1 g2 g3 g4 g5⟩
  · exact ⟨_, _, _, _, _, _, _, rfl, q2 cc g1 g2 g3 g4⟩
theorem c_go_in_grouping (w : World) (a : Addr) (xs : List (Nat × Tok)) (hS : SetAt w a xs) {cur : Str} {c lim lb bra ket p1 : Int} : Meth7 w 2 20 70 [.ref a] cur c lim lb bra ket p1 (0 ≤ lb ∧ c ≤ cur.length ∧ cur.length ≤ 1000 ∧ 0 ≤ c ∧ c ≤ lim ∧ lim = cur.length)
    (fun K => (∀ cc, c ≤ cc → cc ≤ lim → (∀ j, c ≤ j → j < cc → memOf xs (Txt.item cur j) = true) → cc < lim → memOf xs (Txt.item cur cc) = false → K (.bool true) cur cc lim lb bra ket p1) ∧
      (∀ cc, c ≤ cc → cc ≤ lim → (∀ j, c ≤ j → j < cc → memOf xs (Txt.item cur j) = true) → cc = lim → K (.bool false) cur cc lim lb bra ket p1)) := by
  refine ⟨_, _, m_go_in_grouping w a xs hS, fun ⟨a, b, d, e, f, g⟩ => ⟨⟨a, b, d, e⟩, rfl, f, g⟩, ?_⟩
  rintro K ⟨q1, q2⟩ r σ' ⟨cc, rfl, g1, g2, g3, (⟨g4, g5, rfl⟩ | ⟨g4, rfl⟩)⟩
  · exact ⟨_, _, _, _, _, _, _, rfl, q1 cc g1 g2 g3 g4 g5⟩
  · exact ⟨_, _, _, _, _, _, _, rfl, q2 cc g1 g2 g3 g4⟩
theorem unstop8 {P : Prop} (h : P) : Stop P := by unfold Stop; exact h
theorem stopped8 {P : Prop} (h : Stop P) : P := by unfold Stop at h; exact h
/-- behind the first statement -/
inductive Cut8 (w : World) (g1 : Heap) (L1 x dx : Addr) (rest : List (Addr × Obj)) (sg : Array GenState) (sd : Drawn) (so : OsState) (m1 : Str → Option Value) (cur : Str) (c lim lb bra ket : Int) (f : Flow) (s' : Shared) : Prop
  | mk (o' : Obj) (h' : Heap) (tk' : Tok) (e1 : f = .next) (e2 : s' = ⟨h', sg, sd, tk', so⟩) (D : DictIs w.params ⟨cur, c, lim, lb, bra, ket, some lim⟩ o') (F : Fr g1 L1 h' m1) (N : News g1 L1 h' ((x, instObj 494 dx) :: (dx, o') :: rest))
theorem cut8 {w : World} {A : Around} {E : Value → Shared → Prop} {s : Shared} {env : Env} {Q : Flow → Shared → Prop} {st : Stmt} {g1 hE : Heap} {L1 x dx : Addr} {rest : List (Addr × Obj)} {sg : Array GenState} {sd : Drawn} {so : OsState} {m1 : Str → Option Value} {cur : Str} {c lim lb bra ket : Int}
    (F : Fr g1 L1 hE m1) (h1 : wpAny (model pw w) A (exec st env) (fun f s' => Stop (Cut8 w g1 L1 x dx rest sg sd so m1 cur c lim lb bra ket f s')) (fun _ _ => False) s) (h2 : ∀ f s', Cut8 w g1 L1 x dx rest sg sd so m1 cur c lim lb bra ket f s' → Q f s') :
    wpAny (model pw w) A (exec st env) Q E s := wpAny_mono h1 (fun f s' h => h2 f s' (stopped8 h)) (fun _ _ z => z.elim)
set_option hygiene false in
local macro_rules | `(tactic| walk_at "call ref") => `(tactic| (k_here; k_dflt ((first | apply Meth7.use (c_go_out_grouping _ 230 xs0 (set230 _)) | apply Meth7.use (c_go_in_grouping _ 230 xs0 (set230 _))); walk_at "g7"; walk_at "gM"); walk_at "o7"))

noncomputable def Region (cur : Str) (p : Int) : Prop :=
  ((cur.length : Int) < 3 ∧ p = cur.length) ∨
  (3 ≤ (cur.length : Int) ∧ (∀ j, 0 ≤ j → j < (cur.length : Int) → memOf xs0 (Txt.item cur j) = false) ∧ p = cur.length) ∨
  (3 ≤ (cur.length : Int) ∧ ∃ j, 0 ≤ j ∧ j < (cur.length : Int) ∧ (∀ i, 0 ≤ i → i < j → memOf xs0 (Txt.item cur i) = false) ∧ memOf xs0 (Txt.item cur j) = true ∧
    (((∀ i, j + 1 ≤ i → i < (cur.length : Int) → memOf xs0 (Txt.item cur i) = true) ∧ p = cur.length) ∨
     (∃ k, j + 1 ≤ k ∧ k < (cur.length : Int) ∧ (∀ i, j + 1 ≤ i → i < k → memOf xs0 (Txt.item cur i) = true) ∧ memOf xs0 (Txt.item cur k) = false ∧ p = if 3 ≤ k + 1 then k + 1 else 3)))

set_option maxHeartbeats 8000000 in
theorem m_r_mark_regions (w : World) : MethC w 6 60 239 [] (fun σ => σ.ok ∧ σ.c = 0 ∧ σ.lim = σ.cur.length)
    (fun σ r σ' => ∃ p c', σ' = { σ with c := c', p1 := some p } ∧ Region σ.cur p) := by
  constructor
  intro mean mg mb A₀ A base h₀ env outer L m s x dx o σ rest Q E B F X N T XB TB DK hh hrest hxd hA hf hk hd hu hσ hp hQ
  have hxd2 := neN hxd
  obtain ⟨cur, c, lim, lb, bra, ket, p1⟩ := σ
  obtain ⟨sh, sg, sd, st, so⟩ := s
  dsimp only at F N hQ
  obtain ⟨⟨b1, b2, b3, b4⟩, b5, b6⟩ := hp
  dsimp only at b1 b2 b3 b4 b5 b6
  subst b5
  have hQ2 : ∀ {r : Value} {p c' : Int} {o' : Obj} {h' : Heap} {tk' : Tok} {h₀' : Heap}, DictIs w.params ⟨cur, c', lim, lb, bra, ket, some p⟩ o' → Region cur p → KtsTurn (frs outer) h₀ h₀' → Fr h₀' L h' m → News h₀' L h' ((x, instObj 494 dx) :: (dx, o') :: rest) → Below A₀ base outer h₀' → (KF w.params).In h₀' → Top vq (looseW vq vloose) mean mg mb h₀' → KtsDicts (frs outer) h₀' → Q r ⟨h', sg, sd, tk', so⟩ := fun a b c d e f g i j => hQ _ _ _ _ _ _ a ⟨_, _, rfl, b⟩ c d e f g i j
  clear hQ
  walk_at "m_enterT"
  rename_i g1 L1 hE FGE FE NE BE XE TE DE
  refine wpAny_execs_cons ?_
  refine cut8 FE (x := x) (dx := dx) (rest := rest) (sg := sg) (sd := sd) (so := so) (cur := cur) (c := 0) (lim := lim) (lb := lb) (bra := bra) (ket := ket) ?_ ?_
  · cases p1 with
    | none =>
      obtain ⟨zk, rfl⟩ := kap6 hσ
      (try dsimp only at NE)
      walk_at "m_steps"
      (refine' unstop8 ⟨_, _, _, rfl, rfl, ?cD, ?cF, ?cN⟩; (case cF => first | with_reducible assumption | assumption); (case cN => first | with_reducible assumption | assumption); (case cD => exact dict_some))
    | some p1 =>
      obtain ⟨zk, rfl⟩ := kap7 hσ
      (try dsimp only at NE)
      walk_at "m_steps"
      (refine' unstop8 ⟨_, _, _, rfl, rfl, ?cD, ?cF, ?cN⟩; (case cF => first | with_reducible assumption | assumption); (case cN => first | with_reducible assumption | assumption); (case cD => exact dict_some))
  clear FE NE
  rintro f s' ⟨o', h', tk', rfl, rfl, D6, F6, N6⟩
  obtain ⟨zk6, rfl⟩ := kap7 D6
  clear D6
  dsimp only
  walk_at "m_steps"
  all_goals (try dsimp only)
  all_goals (refine' hQ2 ?cd ?reg ?cT ?cF ?cN ?cB ?cX ?cP ?cD; (case cF => first | with_reducible assumption | assumption); (case cN => first | with_reducible assumption | assumption); (case cT => first | with_reducible assumption | exact KtsTurn.refl | assumption); (case cB => first | with_reducible assumption | assumption); (case cX => first | with_reducible assumption | assumption); (case cP => first | with_reducible assumption | assumption); (case cD => first | with_reducible assumption | assumption); (case cd => exact dict_some); (case reg => (dsimp only [Region]; first
          | exact Or.inl ⟨by omega, by omega⟩
          | (rename ∀ j, _ → j < _ → memOf xs0 (Txt.item _ j) = true => gB
             rename ∀ j, _ → j < _ → memOf xs0 (Txt.item _ j) = false => gA
             first
             | exact Or.inr (Or.inr ⟨by omega, _, by omega, ?a1, fun i a b => gA i a b, by assumption, Or.inl ⟨fun i a b => gB i a (by omega), by omega⟩⟩)
             | (refine Or.inr (Or.inr ⟨by omega, _, ?_, ?_, fun i a b => gA i a b, by assumption, Or.inl ⟨fun i a b => gB i a (by omega), by omega⟩⟩) <;> omega)
             | (refine Or.inr (Or.inr ⟨by omega, _, ?_, ?_, fun i a b => gA i a b, by assumption, Or.inr ⟨_, ?_, ?_, fun i a b => gB i a b, by assumption, ?_⟩⟩)
                all_goals first | omega | (rw [if_pos (by omega)]; omega) | (rw [if_neg (by omega)]; omega) | (rw [if_pos (by omega)]) | (rw [if_neg (by omega)])))
          | (rename ∀ j, _ → j < _ → memOf xs0 (Txt.item _ j) = false => gA
             exact Or.inr (Or.inl ⟨by omega, fun j a b => gA j a (by omega), by omega⟩)))))
end
-- W9
section
open PySem PySem.W PySem.Calls PyProof.Rows PySem.Spec

theorem unstop {P : Prop} (h : P) : Stop P := by unfold Stop; exact h
theorem stopped {P : Prop} (h : Stop P) : P := by unfold Stop at h; exact h

/-- an Among object, kept at the module's end -/
inductive EntAt (P : Params) (a : Addr) (K : Str) (U R : Int) : Prop
  | mk (dx : Addr) (t1 t2 t3 t4 t5 t6 : Tok) (h1 : (KF P).lookup a = some (instObj 218 dx)) (h2 : (KF P).lookup dx = some (dictOf [⟨PyData.keyHash P (Str.ofString "s"), .str (Str.ofString "s") t1, .str K t2⟩,
    ⟨PyData.keyHash P (Str.ofString "substring_i"), .str (Str.ofString "substring_i") t3, .int U t4⟩, ⟨PyData.keyHash P (Str.ofString "result"), .str (Str.ofString "result") t5, .int R t6⟩] 3))
/-- a table of Among objects, kept at the module's end -/
structure TabAt (P : Params) (a : Addr) (n : Nat) (ad : Nat → Addr) (K : Nat → Str) (U R : Nat → Int) : Prop where
  lst : ∃ k, (KF P).lookup a = some ⟨.type "list", none, .seq ((List.range n).map fun i => Value.ref (ad i)).toArray k, #[]⟩
  ent : ∀ i, i < n → EntAt P (ad i) (K i) (U i) (R i)
  pos : 2 ≤ n
  few : n ≤ 100
  len : ∀ i, i < n → 1 ≤ (K i).length ∧ (K i).length ≤ 20

theorem TabAt.isList {P : Params} {a n ad K U R} (T : TabAt P a n ad K U R) {h : Heap} (X : (KF P).In h) : h.IsList a ((List.range n).map fun i => Value.ref (ad i)).toArray := by
  obtain ⟨k, hk⟩ := T.lst
  exact ⟨_, X _ _ hk, rfl, ⟨k, rfl⟩⟩

section
variable {prog : Program} {w : World} {A : Around} {E : Value → Shared → Prop} {s : Shared} {env : Env} {h₀ : Heap} {x : Str} {body : List Stmt} {Q : Flow → Shared → Prop}
open PyProof.V in
theorem for_down {r : Addr} {a₀ : Int} {t₀ u₀ v₀ : Tok} {m₀ : Str → Option Value} {news : List (Addr × Obj)} (J : Nat → (Str → Option Value) → Prop)
    (hr : IsRange s.heap r a₀ (-1) (-1) t₀ u₀ v₀) (hh : A.handled = none) (ha : -1 ≤ a₀) (ha2 : a₀ ≤ 1000) (F : Fr h₀ env.locals s.heap m₀) (N : News h₀ env.locals s.heap news) (hj : J 0 m₀)
    (turn : ∀ i t m₁ h tk own, i < (a₀ + 1).toNat → J i m₁ → Fr h₀ env.locals h (fun y => if y = x then some (.int (a₀ - (i : Int)) t) else m₁ y) → News h₀ env.locals h (news ++ own) →
      wpAny (model prog w) A (execs body env) (InvPostN h₀ env.locals (fun m nx => nx = news ∧ J (i + 1) m) own (news.map (·.1)) { s with heap := h, toks := tk } Q) E { s with heap := h, toks := tk })
    (done : ∀ m₁ h tk, J (a₀ + 1).toNat m₁ → Fr h₀ env.locals h m₁ → News h₀ env.locals h news → Q .next { s with heap := h, toks := tk }) :
    wpAny (model prog w) A (pyIter (.ref r)) (fun it s₂ => LoopAtV prog w A h₀ env x body Q E it s₂) E s := by
  have hn : Builtin.Range.rangeSize a₀ (-1) (-1) = (((a₀ + 1).toNat : Nat) : Int) := by rw [rangeSize_down]; split <;> omega
  refine wpAny_pyIter_range hr (small_down (by omega) (by omega) (by omega) (by omega)) ?_
  have W : Walks prog w A s.heap.objs.size [s.heap.objs.size] [s.heap.objs.size] (a₀ + 1).toNat (fun i v => i < (a₀ + 1).toNat ∧ ∃ t, v = .int (a₀ + i * (-1)) t)
      (fun i h => IsRangeIter h s.heap.objs.size (a₀ + (i : Nat) * (-1)) (((a₀ + 1).toNat : Int) - (i : Nat)) (-1)) := (Walks.range hh _ a₀ (-1) _).bound
  refine loop_invN (fun i m nx => nx = news ∧ J i m) W ?_ ?_ ?_ ?_ (by show IsRangeIter _ _ _ _ _; rw [hn]; simpa using Heap.get?_push_size _ rfl) (F.push _) (fun p hp => ⟨Heap.get?_push_of_some _ (N p hp).1, (N p hp).2⟩) ⟨rfl, hj⟩ ?_ ?_
  · intro hm
    exact absurd F.ns.lt ((List.mem_singleton.mp hm) ▸ Nat.lt_irrefl _)
  · intro b hb
    rw [List.mem_singleton.mp hb]
    exact next_is_new F
  · intro p hp hI
    exact absurd (Heap.lt_size (N p hp).1) ((List.mem_singleton.mp hI) ▸ Nat.lt_irrefl _)
  · intro p hp hI
    exact absurd (Heap.lt_size (N p hp).1) ((List.mem_singleton.mp hI) ▸ Nat.lt_irrefl _)
  · rintro i v m₁ nx h tk own hi ⟨_, t, rfl⟩ _ hoff ⟨rfl, hJ⟩ F₁ N₁
    have e1 : a₀ + (i : Int) * (-1) = a₀ - (i : Int) := by omega
    rw [e1] at F₁
    exact turn i t m₁ h tk own hi hJ F₁ N₁
  · rintro m₁ nx h tk ⟨rfl, hJ⟩ F₁ N₁
    exact done m₁ h tk hJ F₁ N₁
end

section
variable {w : World} {A : Around} {s : Shared} {E : Value → Shared → Prop} {Q : Value → Shared → Prop} {a : Addr} {n : Nat} {ad : Nat → Addr} {K : Nat → Str} {U R : Nat → Int} {h₀ : Heap} {L : Addr} {m : Str → Option Value}
theorem tab_len (T : TabAt w.params a n ad K U R) (F : Fr h₀ L s.heap m) (X : (KF w.params).In h₀) (h : Q (.int n (s.toks + 1)) { s with toks := s.toks + 1 + 1 }) : wpAny (model pw w) A (call (.builtin "len") [.ref a]) Q E s := by
  refine len_list (T.isList (X.keeps F.keep)) ?_ ?_
  · have := T.few; simp; omega
  · simpa using h
theorem tab_item (T : TabAt w.params a n ad K U R) {value slice : PySem.Expr} {k : Int} {u : Tok} (F : Fr h₀ L s.heap m) (X : (KF w.params).In h₀) (h0 : 0 ≤ k) (h1 : k < n)
    (h : ∀ dx t1 t2 t3 t4 t5 t6, (KF w.params).lookup (ad k.toNat) = some (instObj 218 dx) → (KF w.params).lookup dx = some (dictOf [⟨PyData.keyHash w.params (Str.ofString "s"), .str (Str.ofString "s") t1, .str (K k.toNat) t2⟩,
      ⟨PyData.keyHash w.params (Str.ofString "substring_i"), .str (Str.ofString "substring_i") t3, .int (U k.toNat) t4⟩, ⟨PyData.keyHash w.params (Str.ofString "result"), .str (Str.ofString "result") t5, .int (R k.toNat) t6⟩] 3) → 1 ≤ (K k.toNat).length → (K k.toNat).length ≤ 20 → Q (.ref (ad k.toNat)) s)
    (hs : subscripted slice false (.ref a) (.int k u) = operate [.ref a, .int k u] (getItem (.ref a) (.int k u)) := by with_unfolding_all rfl) (hg : ∀ r, letTemporaryGo value (.ref a) r = pure () := by intro _; with_unfolding_all rfl) :
    wpAny (model pw w) A (subscriptTail value slice (.ref a) (.int k u)) Q E s := by
  obtain ⟨dx, t1, t2, t3, t4, t5, t6, e1, e2⟩ := T.ent k.toNat (by omega)
  have hf := T.few
  have hl := T.len k.toNat (by omega)
  refine item_list (T.isList (X.keeps F.keep)) h0 (by omega) ?_ (h dx t1 t2 t3 t4 t5 t6 e1 e2 hl.1 hl.2) hs hg
  rw [List.getElem?_toArray, List.getElem?_map, List.getElem?_range (by omega)]
  rfl
theorem min_K {news : List (Addr × Obj)} {a b : Int} {t u : Tok} (hh : A.handled = none) (F : Fr h₀ L s.heap m) (N : News h₀ L s.heap news)
    (h : ∀ h' tk mn t', mn = a ∨ mn = b → mn ≤ a → mn ≤ b → Fr h₀ L h' m → News h₀ L h' news → Q (.int mn t') { s with heap := h', toks := tk }) :
    wpAny (model pw w) A (call (.builtin "min") [.int a t, .int b u]) Q E s :=
  min_two_N hh F N fun h' tk F' N' => h h' tk _ _ (by split <;> simp) (by split <;> omega) (by split <;> omega) F' N'
end
local macro_rules | `(tactic| walk_at "call builtin:min") => `(tactic| (k_here; k_dflt (refine' min_K ?hh ?F ?N ?_; (case hh => walk_at "hh"); (case F | N => k_asm); k_whole); intro mh mtk mn mt mn1 mn2 mn3 F' N'; (try k_sweep)))
local macro_rules | `(tactic| walk_at "call builtin:len") => `(tactic| (k_here; k_dflt (refine' tab_len ?T ?F ?X ?_; (case T => k_all); (case F | X => k_asm); k_whole)))
local macro_rules | `(tactic| walk_at "subscriptTail Name Name ref int") => `(tactic| (k_here; k_dflt (refine' tab_item ?T ?F ?X ?h0 ?h1 ?_; (case T => k_all); (case F | X => k_asm); (case h0 | h1 => omega); k_whole); intro adx at1 at2 at3 at4 at5 at6 ae1 ae2 ae3 ae4))
local macro_rules | `(tactic| walk_at "getAttr ref") => `(tactic| (k_here; k_dflt (refine' get_own ?k1 ?k2 ?k3 ?k4 ?k5 ?k6 ?k7 ?k8 ?k9 ?_; (case k1 | k2 => k_asm); (case k3 => exact InstAt.of_K (Frag.In.keeps (by k_asm) (Fr.keep (by k_asm))) (by k_all) (by k_all)); (case k4 | k5 | k6 | k7 => k_is); (case k8 => k_get); (case k9 => k_handed); k_whole)))
local macro_rules | `(tactic| walk_at "exec While Compare cons nil") => `(tactic| (k_here; refine stop_at ?_))
local macro_rules | `(tactic| walk_at "exec While Constant cons nil") => `(tactic| (k_here; refine stop_at ?_))
theorem frGen {h₀ h : Heap} {L : Addr} {m : Str → Option Value} (F : Fr h₀ L h m) : ∃ m', m' = m ∧ Fr h₀ L h m' := ⟨m, rfl, F⟩
local macro_rules | `(tactic| walk_at "subscriptTail Name BinOp str int") => `(tactic| (refine item_str (fitsSsize_of (N := 9223372036854775808) (by omega) (by omega) (Int.le_refl _)) (by omega) (by omega) ?_; intro _))
local macro_rules | `(tactic| walk_at "subscriptTail Name Name str int") => `(tactic| (refine item_str (fitsSsize_of (N := 9223372036854775808) (by omega) (by omega) (Int.le_refl _)) (by omega) (by omega) ?_; intro _))
local macro_rules | `(tactic| walk_at "call builtin:ord") => `(tactic| (refine ord_of_one (len_item _ _) ?_))
local macro_rules | `(tactic| walk_at "loadName") => `(tactic| (k_here; k_dflt (refine' wpAny_loadName_local ?k1 ?k2 ?k3 ?k4 ?_; (case k1 | k2 => exact rfl); (case k3 => exact Fr.ns (by k_asm)); (case k4 => first | with_reducible assumption | exact rfl | assumption); k_whole)))
local macro_rules | `(tactic| walk_at "eval Name") => `(tactic| (k_here; k_dflt (refine' ld ?k1 ?k2 ?_; (case k1 => k_asm); (case k2 => first | with_reducible assumption | exact rfl | assumption); k_whole)))
local macro_rules | `(tactic| walk_at "exec For Name Call cons nil") => `(tactic| (k_here; refine stop_at ?_))
section
variable (w : World) (g1 : Heap) (L1 x dx a : Addr) (rest : List (Addr × Obj)) (sg : Array GenState) (sd : Drawn) (so : OsState) (zk : Nat → Tok) (cur : Str) (c lim lb bra ket p1 : Int) (n : Nat) (K : Nat → Str)
/-- behind the first loop -/
inductive Mid9 (f : Flow) (s' : Shared) : Prop
  | mk (h' : Heap) (tk' : Tok) (m' : Str → Option Value) (i ci : Int) (v1 v3 : Tok) (e1 : f = .next) (e2 : s' = ⟨h', sg, sd, tk', so⟩) (F : Fr g1 L1 h' m') (N : News g1 L1 h' ((x, instObj 494 dx) :: (dx, dictOf [⟨PyData.keyHash w.params (Str.ofString "current"), .str (Str.ofString "current") (zk 0), .str cur (zk 7)⟩, ⟨PyData.keyHash w.params (Str.ofString "cursor"), .str (Str.ofString "cursor") (zk 1), .int c (zk 8)⟩, ⟨PyData.keyHash w.params (Str.ofString "limit"), .str (Str.ofString "limit") (zk 2), .int lim (zk 9)⟩, ⟨PyData.keyHash w.params (Str.ofString "limit_backward"), .str (Str.ofString "limit_backward") (zk 3), .int lb (zk 10)⟩, ⟨PyData.keyHash w.params (Str.ofString "bra"), .str (Str.ofString "bra") (zk 4), .int bra (zk 11)⟩, ⟨PyData.keyHash w.params (Str.ofString "ket"), .str (Str.ofString "ket") (zk 5), .int ket (zk 12)⟩, ⟨PyData.keyHash w.params (Str.ofString "I_p1"), .str (Str.ofString "I_p1") (zk 6), .int p1 (zk 13)⟩] 7) :: rest))
    (r1 : m' (Str.ofString "self") = some (.ref x)) (r2 : m' (Str.ofString "v") = some (.ref a)) (r3 : m' (Str.ofString "c") = some (.int c (zk 8))) (r4 : m' (Str.ofString "i") = some (.int i v1)) (r5 : m' (Str.ofString "common_i") = some (.int ci v3)) (i0 : 0 ≤ i) (ci0 : 0 ≤ ci) (hfin : Fin2 n (rkOf K) (revOf cur lb c) i.toNat ci.toNat)
/-- in the last loop -/
inductive Last9 (ci : Int) (v3 : Tok) (nn : Nat) (s' : Shared) : Prop
  | mk (h₁ : Heap) (tk₁ : Tok) (m₁ : Str → Option Value) (i' : Int) (v1 : Tok) (e : s' = ⟨h₁, sg, sd, tk₁, so⟩) (F : Fr g1 L1 h₁ m₁) (N : News g1 L1 h₁ ((x, instObj 494 dx) :: (dx, dictOf [⟨PyData.keyHash w.params (Str.ofString "current"), .str (Str.ofString "current") (zk 0), .str cur (zk 7)⟩, ⟨PyData.keyHash w.params (Str.ofString "cursor"), .str (Str.ofString "cursor") (zk 1), .int c (zk 8)⟩, ⟨PyData.keyHash w.params (Str.ofString "limit"), .str (Str.ofString "limit") (zk 2), .int lim (zk 9)⟩, ⟨PyData.keyHash w.params (Str.ofString "limit_backward"), .str (Str.ofString "limit_backward") (zk 3), .int lb (zk 10)⟩, ⟨PyData.keyHash w.params (Str.ofString "bra"), .str (Str.ofString "bra") (zk 4), .int bra (zk 11)⟩, ⟨PyData.keyHash w.params (Str.ofString "ket"), .str (Str.ofString "ket") (zk 5), .int ket (zk 12)⟩, ⟨PyData.keyHash w.params (Str.ofString "I_p1"), .str (Str.ofString "I_p1") (zk 6), .int p1 (zk 13)⟩] 7) :: rest))
    (r1 : m₁ (Str.ofString "self") = some (.ref x)) (r2 : m₁ (Str.ofString "v") = some (.ref a)) (r3 : m₁ (Str.ofString "c") = some (.int c (zk 8))) (r4 : m₁ (Str.ofString "i") = some (.int i' v1)) (r5 : m₁ (Str.ofString "common_i") = some (.int ci v3)) (i0 : 0 ≤ i') (hC : Chn n (rkOf K) (revOf cur lb c) ci.toNat i'.toNat) (e2 : nn = i'.toNat)
/-- in the first loop -/
inductive Loop9 (nn : Nat) (s' : Shared) : Prop
  | mk (h₁ : Heap) (tk₁ : Tok) (m₁ : Str → Option Value) (i j ci cj : Int) (fi : Bool) (v1 v2 v3 v4 : Tok) (e : s' = ⟨h₁, sg, sd, tk₁, so⟩) (F : Fr g1 L1 h₁ m₁) (N : News g1 L1 h₁ ((x, instObj 494 dx) :: (dx, dictOf [⟨PyData.keyHash w.params (Str.ofString "current"), .str (Str.ofString "current") (zk 0), .str cur (zk 7)⟩, ⟨PyData.keyHash w.params (Str.ofString "cursor"), .str (Str.ofString "cursor") (zk 1), .int c (zk 8)⟩, ⟨PyData.keyHash w.params (Str.ofString "limit"), .str (Str.ofString "limit") (zk 2), .int lim (zk 9)⟩, ⟨PyData.keyHash w.params (Str.ofString "limit_backward"), .str (Str.ofString "limit_backward") (zk 3), .int lb (zk 10)⟩, ⟨PyData.keyHash w.params (Str.ofString "bra"), .str (Str.ofString "bra") (zk 4), .int bra (zk 11)⟩, ⟨PyData.keyHash w.params (Str.ofString "ket"), .str (Str.ofString "ket") (zk 5), .int ket (zk 12)⟩, ⟨PyData.keyHash w.params (Str.ofString "I_p1"), .str (Str.ofString "I_p1") (zk 6), .int p1 (zk 13)⟩] 7) :: rest))
    (r1 : m₁ (Str.ofString "self") = some (.ref x)) (r2 : m₁ (Str.ofString "v") = some (.ref a)) (r3 : m₁ (Str.ofString "c") = some (.int c (zk 8))) (r4 : m₁ (Str.ofString "lb") = some (.int lb (zk 10)))
    (r5 : m₁ (Str.ofString "i") = some (.int i v1)) (r6 : m₁ (Str.ofString "j") = some (.int j v2)) (r7 : m₁ (Str.ofString "common_i") = some (.int ci v3)) (r8 : m₁ (Str.ofString "common_j") = some (.int cj v4)) (r9 : m₁ (Str.ofString "first_key_inspected") = some (.bool fi))
    (hI : OutInv n (rkOf K) (revOf cur lb c) i j ci cj fi) (e2 : nn = (if fi = true then 0 else (j - i).toNat))
/-- what the inner loop leaves -/
inductive In9 (m3 : Str → Option Value) (kk : Int) (f : Flow) (s' : Shared) : Prop
  | mk (h' : Heap) (tk' : Tok) (m' : Str → Option Value) (d com : Int) (td tc : Tok) (e1 : f = .next) (e2 : s' = ⟨h', sg, sd, tk', so⟩) (F : Fr g1 L1 h' m') (N : News g1 L1 h' ((x, instObj 494 dx) :: (dx, dictOf [⟨PyData.keyHash w.params (Str.ofString "current"), .str (Str.ofString "current") (zk 0), .str cur (zk 7)⟩, ⟨PyData.keyHash w.params (Str.ofString "cursor"), .str (Str.ofString "cursor") (zk 1), .int c (zk 8)⟩, ⟨PyData.keyHash w.params (Str.ofString "limit"), .str (Str.ofString "limit") (zk 2), .int lim (zk 9)⟩, ⟨PyData.keyHash w.params (Str.ofString "limit_backward"), .str (Str.ofString "limit_backward") (zk 3), .int lb (zk 10)⟩, ⟨PyData.keyHash w.params (Str.ofString "bra"), .str (Str.ofString "bra") (zk 4), .int bra (zk 11)⟩, ⟨PyData.keyHash w.params (Str.ofString "ket"), .str (Str.ofString "ket") (zk 5), .int ket (zk 12)⟩, ⟨PyData.keyHash w.params (Str.ofString "I_p1"), .str (Str.ofString "I_p1") (zk 6), .int p1 (zk 13)⟩] 7) :: rest))
    (j1 : ∀ y, y ≠ Str.ofString "i2" → y ≠ Str.ofString "diff" → y ≠ Str.ofString "common" → m' y = m3 y) (j2 : m' (Str.ofString "diff") = some (.int d td)) (j3 : m' (Str.ofString "common") = some (.int com tc)) (j4 : 0 ≤ com)
    (j5 : (d < 0 ∧ lexle (rkOf K kk.toNat) (revOf cur lb c) = false ∧ Com (rkOf K kk.toNat) (revOf cur lb c) com.toNat) ∨ (0 ≤ d ∧ lexle (rkOf K kk.toNat) (revOf cur lb c) = true ∧ Max (rkOf K kk.toNat) (revOf cur lb c) com.toNat))
end
/-- in the inner loop -/
structure Turn9 (K : Nat → Str) (R : List Nat) (m3 : Str → Option Value) (kk mn : Int) (ii : Nat) (m' : Str → Option Value) : Prop where
  j1 : ∀ y, y ≠ Str.ofString "i2" → y ≠ Str.ofString "diff" → y ≠ Str.ofString "common" → m' y = m3 y
  j2 : ∃ td, m' (Str.ofString "diff") = some (.int 0 td)
  j3 : ∃ tc, m' (Str.ofString "common") = some (.int (mn + (ii : Int)) tc)
  j4 : Com (rkOf K kk.toNat) R (mn + (ii : Int)).toNat
set_option maxHeartbeats 8000000 in
theorem m_find_among_b (w : World) (a : Addr) (n : Nat) (ad K U R) (hT : TabAt w.params a n ad K U R) (hO : TabOk n (rkOf K) U) : MethC w 4 40 140 [.ref a] (fun σ => σ.ok ∧ σ.p1.isSome = true ∧ σ.lb ≤ σ.c ∧ σ.c ≤ σ.cur.length ∧ σ.lim = σ.cur.length)
    (fun σ r σ' => (∃ k t, k < n ∧ rkOf K k <+: revOf σ.cur σ.lb σ.c ∧ (∀ M, M < n → rkOf K M <+: revOf σ.cur σ.lb σ.c → (rkOf K M).length ≤ (rkOf K k).length) ∧ σ' = { σ with c := σ.c - (K k).length } ∧ r = .int (R k) t) ∨
      ((∀ M, M < n → ¬ rkOf K M <+: revOf σ.cur σ.lb σ.c) ∧ σ' = σ ∧ ∃ t, r = .int 0 t)) := by
  refine MethC.of7 (fun σ h => by first | exact h.2.1 | exact h.2) ?_
  intro mean mg mb A₀ A base h₀ env outer L m sh sg sd st so x dx rest Q E zk cur c lim lb bra ket p1 B F X N T XB TB DK hh hrest hxd hA hf hk hd hu hp hQ
  have hxd2 := neN hxd
  obtain ⟨⟨b1, b2, b3, b4⟩, b5, b6, b7, b8⟩ := hp
  dsimp only at b1 b2 b3 b4 b5 b6 b7 b8
  clear b5
  (try dsimp only at hQ)
  walk_at "m_enterT"
  rename_i g1 L1 hE FGE FE NE BE XE TE DE
  walk_at "m_steps"
  rename Fr _ _ _ _ => F1
  rename News _ _ _ _ => N1
  refine unstop ?_
  refine wpAny_mono (Q := fun f s' => Stop (Mid9 w g1 L1 x dx a rest sg sd so zk cur c lim lb bra ket p1 n K f s')) (E := fun _ _ => False) ?wl ?rest2 (fun _ _ z => z.elim)
  case rest2 =>
    intro f s' hq
    replace hq := stopped hq
    obtain ⟨h', tk', m', i, ci, v1, v3, rfl, rfl, F6, N6, r1, r2, r3, r4, r5, i0, ci0, hfin⟩ := hq
    dsimp only
    walk_at "m_steps"
    refine unstop ?_
    refine while_rule (fun nn s' => Last9 w g1 L1 x dx a rest sg sd so zk cur c lim lb bra ket p1 n K ci v3 nn s') i.toNat ⟨_, _, _, i, _, rfl, F6, N6, r1, r2, r3, r4, r5, i0, hO.start hfin, rfl⟩ ?_
    rintro nn s' ⟨h₁, tk₁, m₁, i, v1, rfl, F2, N2, q1, q2, q3, q4, q5, i0, hC, rfl⟩
    have hin := hC.1
    walk_at "m_steps"
    all_goals (try dsimp only)
    · have hh := hC.hit (by rw [len_rk]; omega)
      (refine' hQ _ _ _ _ _ _ ?cd (Or.inl ⟨i.toNat, _, hin, hh.1, hh.2, rfl, rfl⟩) ?cT ?cF ?cN ?cB ?cX ?cP ?cD; (case cF => first | with_reducible assumption | assumption); (case cN => first | with_reducible assumption | assumption); (case cT => first | with_reducible assumption | exact KtsTurn.refl | assumption); (case cB => first | with_reducible assumption | assumption); (case cX => first | with_reducible assumption | assumption); (case cP => first | with_reducible assumption | assumption); (case cD => first | with_reducible assumption | assumption); (case cd => exact dict_some))
    · have hs := hO.step hC (by rw [len_rk]; omega)
      have hno := (hs.resolve_right (by omega)).2
      (refine' hQ _ _ _ _ _ _ ?cd (Or.inr ⟨hno, rfl, _, rfl⟩) ?cT ?cF ?cN ?cB ?cX ?cP ?cD; (case cF => first | with_reducible assumption | assumption); (case cN => first | with_reducible assumption | assumption); (case cT => first | with_reducible assumption | exact KtsTurn.refl | assumption); (case cB => first | with_reducible assumption | assumption); (case cX => first | with_reducible assumption | assumption); (case cP => first | with_reducible assumption | assumption); (case cD => first | with_reducible assumption | assumption); (case cd => exact dict_some))
    · have hs := hO.step hC (by rw [len_rk]; omega)
      have hno := hs.resolve_left (by omega)
      rename Fr _ _ _ _ => F8
      rename News _ _ _ _ => N8
      exact unstop ⟨_, by omega, _, _, _, U i.toNat, _, rfl, F8, N8, q1, q2, q3, rfl, q5, hno.1, hno.2.2, rfl⟩
  clear_value qk ek
  refine while_rule (fun nn s' => Loop9 w g1 L1 x dx a rest sg sd so zk cur c lim lb bra ket p1 n K nn s') n ⟨_, _, _, 0, n, 0, 0, false, _, _, _, _, rfl, F1, N1, rfl, rfl, rfl, rfl, rfl, rfl, rfl, rfl, rfl, OutInv.start _ _ _ hT.pos, by simp⟩ ?_
  clear F1 N1
  rintro nn s' ⟨h₁, tk₁, m₁, i, j, ci, cj, fi, v1, v2, v3, v4, rfl, F2, N2, q1, q2, q3, q4, q5, q6, q7, q8, q9, hI, rfl⟩
  have hb := hI.bounds
  obtain ⟨z1, z2, z3, z4, z5, z6, z7⟩ := hb
  walk_at "m_steps"
  have hkk : i + (j - i).fdiv (2 ^ Int.toNat 1) = i + (j - i) / 2 := by
    rw [Int.fdiv_eq_ediv_of_nonneg _ (by decide)]; rfl
  generalize i + (j - i).fdiv (2 ^ Int.toNat 1) = kk at *
  have hk0 : i ≤ kk ∧ kk < j := by omega
  walk_at "m_steps"
  refine unstop ?_
  rename Fr _ _ _ _ => F3
  rename News _ _ _ _ => N3
  obtain ⟨m3, hm3, F4⟩ := frGen F3
  have p1' : m3 (Str.ofString "self") = some (.ref x) := by rw [hm3]; exact q1
  have p2' : m3 (Str.ofString "v") = some (.ref a) := by rw [hm3]; exact q2
  have p3' : m3 (Str.ofString "c") = some (.int c (zk 8)) := by rw [hm3]; exact q3
  have p4' : m3 (Str.ofString "lb") = some (.int lb (zk 10)) := by rw [hm3]; exact q4
  have p5' : m3 (Str.ofString "i") = some (.int i v1) := by rw [hm3]; exact q5
  have p6' : m3 (Str.ofString "j") = some (.int j v2) := by rw [hm3]; exact q6
  have p7' : m3 (Str.ofString "common_i") = some (.int ci v3) := by rw [hm3]; exact q7
  have p8' : m3 (Str.ofString "common_j") = some (.int cj v4) := by rw [hm3]; exact q8
  have p9' : m3 (Str.ofString "first_key_inspected") = some (.bool fi) := by rw [hm3]; exact q9
  have p10' : m3 (Str.ofString "w") = some (.ref (ad kk.toNat)) := by rw [hm3]; rfl
  obtain ⟨tk0, p11'⟩ : ∃ t, m3 (Str.ofString "k") = some (.int kk t) := ⟨_, by rw [hm3]; rfl⟩
  obtain ⟨td0, p12'⟩ : ∃ t, m3 (Str.ofString "diff") = some (.int 0 t) := ⟨_, by rw [hm3]; rfl⟩
  obtain ⟨mn, tc0, p13', mn1, mn2, mn3⟩ : ∃ mn t, m3 (Str.ofString "common") = some (.int mn t) ∧ (mn = ci ∨ mn = cj) ∧ mn ≤ ci ∧ mn ≤ cj := ⟨_, _, by rw [hm3]; rfl, by assumption, by assumption, by assumption⟩
  clear hm3 F3 q1 q2 q3 q4 q5 q6 q7 q8 q9
  obtain ⟨hmn0, hcom⟩ := hI.comm hO mn1 mn2 mn3 hk0.1 hk0.2
  have hmnK := hcom.1
  have hmnR := hcom.2.1
  rw [len_rk] at hmnK
  rw [len_rev (lb := lb) (c := c) (by omega) (by omega) (by omega)] at hmnR
  have hmnK' : mn ≤ (K kk.toNat).length := by omega
  have hmnR' : mn ≤ c - lb := by omega
  clear hmnK hmnR
  refine wpAny_mono (Q := fun f s' => Stop (In9 w g1 L1 x dx rest sg sd so zk cur c lim lb bra ket p1 K m3 kk f s')) (E := fun _ _ => False) ?inner ?after (fun _ _ z => z.elim)
  case after =>
    intro f s' hq
    replace hq := stopped hq
    obtain ⟨h', tk', m', d, com, td, tc, rfl, rfl, F6, N6, j1, j2, j3, j4, j5⟩ := hq
    have r1 := (j1 _ (by decide) (by decide) (by decide)).trans p1'
    have r2 := (j1 _ (by decide) (by decide) (by decide)).trans p2'
    have r3 := (j1 _ (by decide) (by decide) (by decide)).trans p3'
    have r4 := (j1 _ (by decide) (by decide) (by decide)).trans p4'
    have r5 := (j1 _ (by decide) (by decide) (by decide)).trans p5'
    have r6 := (j1 _ (by decide) (by decide) (by decide)).trans p6'
    have r7 := (j1 _ (by decide) (by decide) (by decide)).trans p7'
    have r8 := (j1 _ (by decide) (by decide) (by decide)).trans p8'
    have r9 := (j1 _ (by decide) (by decide) (by decide)).trans p9'
    have r10 := (j1 _ (by decide) (by decide) (by decide)).trans p11'
    clear p1' p2' p3' p4' p5' p6' p7' p8' p9' p10' p11' p12' p13' j1 F4 N3
    dsimp only
    rcases j5 with ⟨d1, d2, d3⟩ | ⟨d1, d2, d3⟩
    · have hc1 : com ≤ 1000 := by have := d3.1; rw [len_rk] at this; omega
      obtain ⟨o1, o2⟩ := hI.low hkk j4 hc1 d2 d3
      walk_at "m_steps"
      all_goals (dsimp only; rename Fr _ _ _ _ => F8; rename News _ _ _ _ => N8)
      · exact unstop ⟨_, _, _, i, ci, _, _, rfl, rfl, F8, N8, r1, r2, r3, r5, r7, by omega, by omega, (o2 (by omega)).1 (by omega)⟩
      · exact unstop ⟨_, _, _, i, ci, _, _, rfl, rfl, F8, N8, r1, r2, r3, r5, r7, by omega, by omega, (o2 (by omega)).2.1 (by omega) (by omega)⟩
      · exact absurd ((o2 (by omega)).2.2 (by omega) (by omega)).1 (by simp [*])
      · exact unstop ⟨_, by rw [((o2 (by omega)).2.2 (by omega) (by omega)).1]; simp; omega, _, _, _, i, kk, ci, com, true, _, _, _, _, rfl, F8, N8, r1, r2, r3, r4, r5, rfl, r7, rfl, rfl, ((o2 (by omega)).2.2 (by omega) (by omega)).2, rfl⟩
      · have hf : fi = false := by
          rcases hI.turn with ⟨_, q⟩ | ⟨q, q2, _⟩
          · exact q
          · omega
        exact unstop ⟨_, by rw [hf]; simp; omega, _, _, _, i, kk, ci, com, fi, _, _, _, _, rfl, F8, N8, r1, r2, r3, r4, r5, rfl, r7, rfl, r9, o1 ⟨by omega, hf⟩, rfl⟩
    · have hc1 : com ≤ 1000 := by have := d3.1.1; rw [len_rk] at this; omega
      obtain ⟨o1, o2⟩ := hI.high hT.pos hkk j4 hc1 d2 d3
      walk_at "m_steps"
      all_goals (dsimp only; rename Fr _ _ _ _ => F8; rename News _ _ _ _ => N8)
      · exact unstop ⟨_, _, _, kk, com, _, _, rfl, rfl, F8, N8, r1, r2, r3, rfl, rfl, by omega, by omega, (o2 (by omega)).1 (by omega)⟩
      · exfalso; have := (o2 (by omega)).2.1; omega
      · exact unstop ⟨_, _, _, kk, com, _, _, rfl, rfl, F8, N8, r1, r2, r3, rfl, rfl, by omega, by omega, ((o2 (by omega)).2.2 (by omega)).2⟩
      · exact absurd ((o2 (by omega)).2.2 (by omega)).1 (by simp [*])
      · have hf : fi = false := by
          rcases hI.turn with ⟨_, q⟩ | ⟨q, q2, _⟩
          · exact q
          · omega
        exact unstop ⟨_, by rw [hf]; simp; omega, _, _, _, kk, j, com, cj, fi, _, _, _, _, rfl, F8, N8, r1, r2, r3, r4, rfl, r6, rfl, r8, r9, o1 (by omega), rfl⟩
  with_unfolding_all refine' For_invVF F4 ?k1 ?k2 ?_
  case k1 => exact rfl
  case k2 => exact rfl
  walk_at "m_steps"
  rename Fr _ _ _ _ => F5
  rename News _ _ _ _ => N5
  rename IsRange _ _ _ _ _ _ _ _ => R5
  refine for_down (fun ii m' => Turn9 K (revOf cur lb c) m3 kk mn ii m') R5 hh (by omega) (by omega) F5 N5 ⟨fun _ _ _ _ => rfl, ⟨_, p12'⟩, ⟨_, by simpa using p13'⟩, by simpa using hcom⟩ ?turn ?done
  case done =>
    rintro m' h' tk' ⟨j1, ⟨td, j2⟩, ⟨tc, j3⟩, j4⟩ F6 N6
    have ha := j4.all (by rw [len_rk]; omega)
    exact unstop ⟨h', tk', m', 0, _, td, tc, rfl, rfl, F6, N6, j1, j2, j3, by omega, Or.inr ⟨Int.le_refl 0, ha.1, ha.2⟩⟩
  clear F5 N5
  rintro ii ti m₄ h₄ tk₄ own hii ⟨j1, ⟨td, j2⟩, ⟨tc, j3⟩, j4⟩ F6 N6
  have hm1 := j4.1
  have hm2 := j4.2.1
  rw [len_rk] at hm1
  rw [len_rev (lb := lb) (c := c) (by omega) (by omega) (by omega)] at hm2
  obtain ⟨m5, hm5, F7⟩ := frGen F6
  have r1 : m5 (Str.ofString "self") = some (.ref x) := by rw [hm5]; exact (j1 _ (by decide) (by decide) (by decide)).trans p1'
  have r2 : m5 (Str.ofString "c") = some (.int c (zk 8)) := by rw [hm5]; exact (j1 _ (by decide) (by decide) (by decide)).trans p3'
  have r3 : m5 (Str.ofString "lb") = some (.int lb (zk 10)) := by rw [hm5]; exact (j1 _ (by decide) (by decide) (by decide)).trans p4'
  have r4 : m5 (Str.ofString "w") = some (.ref (ad kk.toNat)) := by rw [hm5]; exact (j1 _ (by decide) (by decide) (by decide)).trans p10'
  have r5 : m5 (Str.ofString "common") = some (.int (mn + (ii : Int)) tc) := by rw [hm5]; exact j3
  have r6 : m5 (Str.ofString "i2") = some (.int ((K kk.toNat).length - 1 - mn - (ii : Int)) ti) := by rw [hm5]; rfl
  have r7 : ∀ y, y ≠ Str.ofString "i2" → y ≠ Str.ofString "diff" → y ≠ Str.ofString "common" → m5 y = m3 y := fun y h1 h2 h3 => by
    rw [hm5]; show (if y = Str.ofString "i2" then _ else m₄ y) = _; rw [if_neg h1]; exact j1 y h1 h2 h3
  have z1 : mn + (ii : Int) < (K kk.toNat).length := by omega
  have z2 : mn + (ii : Int) ≤ c - lb := by omega
  have z0 : 0 ≤ mn + (ii : Int) := by omega
  clear hm1 hm2 hii
  clear hm5 F6 p1' p2' p3' p4' p5' p6' p7' p8' p9' p10' p11' p12' p13' j1 j2 j3
  walk_at "m_steps"
  all_goals (rename Fr _ _ _ _ => F8; rename News _ _ _ _ => N8)
  · refine unstop ?_
    exact ⟨_, _, _, -1, mn + (ii : Int), _, _, rfl, rfl, F8, news_of_mem N8 fun p hp => List.mem_append_left _ hp, fun y h1 h2 h3 => by simp only [h2, if_false]; exact r7 y h1 h2 h3, rfl, r5, by omega, Or.inl ⟨by omega, j4.short (by rw [len_rk]; omega) (by rw [len_rev (lb := lb) (c := c) (by omega) (by omega) (by omega)]; omega), j4⟩⟩
  · refine unstop ?_
    have e1 := rev_at (cur := cur) (lb := lb) (c := c) (t := mn + (ii : Int)) (by omega) (by omega) (by omega) (by omega)
    have e2 := rk_at (K := K) (k := kk.toNat) (t := mn + (ii : Int)) (by omega) (by omega)
    rw [show ((K kk.toNat).length : Int) - 1 - (mn + (ii : Int)) = (K kk.toNat).length - 1 - mn - (ii : Int) by omega] at e2
    simp only [codeAt] at e1 e2
    refine ⟨_, _, _, _, mn + (ii : Int), _, _, rfl, rfl, F8, news_of_mem N8 fun p hp => List.mem_append_left _ hp, fun y h1 h2 h3 => by simp only [h2, if_false]; exact r7 y h1 h2 h3, rfl, r5, by omega, ?_⟩
    rcases Int.lt_or_le (((Txt.item cur (c - 1 - (mn + (ii : Int)))).cps.getD 0 0 : Nat) - ((Txt.item (K kk.toNat) ((K kk.toNat).length - 1 - mn - (ii : Int))).cps.getD 0 0 : Nat) : Int) 0 with hd | hd
    · exact Or.inl ⟨hd, j4.less' e2 e1 (by omega), j4⟩
    · have := j4.more' e2 e1 (by omega)
      exact Or.inr ⟨hd, this.1, this.2⟩
  · have e1 := rev_at (cur := cur) (lb := lb) (c := c) (t := mn + (ii : Int)) (by omega) (by omega) (by omega) (by omega)
    have e2 := rk_at (K := K) (k := kk.toNat) (t := mn + (ii : Int)) (by omega) (by omega)
    rw [show ((K kk.toNat).length : Int) - 1 - (mn + (ii : Int)) = (K kk.toNat).length - 1 - mn - (ii : Int) by omega] at e2
    simp only [codeAt] at e1 e2
    rename ((_ : Int) - _ = 0) => hd0
    refine ⟨_, _, _, _, _, rfl, F8, N8, fun p hp => List.mem_append_left _ hp, fun p hp => List.mem_append_right _ hp, rfl, rfl, fun y h1 h2 h3 => by simp only [h2, h3, if_false]; exact r7 y h1 h2 h3, ⟨_, by show some (Value.int _ _) = _; rw [hd0]⟩, ⟨_, by rw [show mn + ((ii + 1 : Nat) : Int) = mn + (ii : Int) + 1 by omega]; rfl⟩, ?_⟩
    rw [show (mn + ((ii + 1 : Nat) : Int)).toNat = (mn + (ii : Int)).toNat + 1 by omega]
    refine j4.step' e2 ?_
    rw [e1]
    congr 1
    omega
end
-- T1
section
open PySem PySem.W PySem.Calls PyProof.Rows PySem.Spec

theorem fill_T1 : PySem.Challenge.rw_ip0002_01 = PySem.Challenge.rw_ip0002_01 ∧ KF = KF := by
  k_fill
  exact ⟨rfl, rfl⟩
theorem TabOk.congr {n : Nat} {rk rk' : Nat → List Nat} {U : Nat → Int} (T : TabOk n rk U) (h : ∀ i, i < n → rk' i = rk i) : TabOk n rk' U := by
  refine ⟨fun i j a b => by rw [h i (by omega), h j b]; exact T.sorted i j a b, fun i hi => ⟨(T.below i hi).1, fun hu => by have := (T.below i hi).1; rw [h i hi, h _ (by omega)]; exact (T.below i hi).2 hu⟩, fun i M hi hM hp => ?_⟩
  rw [h i hi, h M hM] at hp
  rcases T.chain i M hi hM hp with e | ⟨a, b⟩
  · exact .inl e
  · have := (T.below i hi).1
    exact .inr ⟨a, by rw [h M hM, h _ (by omega)]; exact b⟩
noncomputable def tabOkB (l : List (List Nat)) (us : List Int) : Bool :=
  (List.range l.length).all fun j => ((List.range j).all fun i => lexle (l.getD i []) (l.getD j [])) && decide (us.getD j 0 < j) && (decide (us.getD j 0 < 0) || (l.getD (us.getD j 0).toNat []).isPrefixOf (l.getD j [])) &&
    (List.range l.length).all fun M => !(l.getD M []).isPrefixOf (l.getD j []) || M == j || (decide (0 ≤ us.getD j 0) && (l.getD M []).isPrefixOf (l.getD (us.getD j 0).toNat []))
theorem tabOk_of {l : List (List Nat)} {us : List Int} (h : tabOkB l us = true) : TabOk l.length (fun i => l.getD i []) (fun i => us.getD i 0) := by
  have key := List.all_eq_true.mp h
  refine ⟨fun i j a b => ?_, fun i hi => ?_, fun i M hi hM hp => ?_⟩
  · have := key j (List.mem_range.mpr b)
    simp only [Bool.and_eq_true] at this
    exact List.all_eq_true.mp this.1.1.1 i (List.mem_range.mpr a)
  · have := key i (List.mem_range.mpr hi)
    simp only [Bool.and_eq_true, Bool.or_eq_true, decide_eq_true_eq] at this
    refine ⟨this.1.1.2, fun hu => ?_⟩
    rcases this.1.2 with h | h
    · omega
    · exact List.isPrefixOf_iff_prefix.mp h
  · have := key i (List.mem_range.mpr hi)
    simp only [Bool.and_eq_true] at this
    have := List.all_eq_true.mp this.2 M (List.mem_range.mpr hM)
    simp only [Bool.or_eq_true, Bool.not_eq_true', beq_iff_eq, Bool.and_eq_true, decide_eq_true_eq] at this
    rcases this with (h | h) | ⟨h1, h2⟩
    · rw [List.isPrefixOf_iff_prefix.mpr hp] at h; cases h
    · exact .inl h
    · exact .inr ⟨h1, List.isPrefixOf_iff_prefix.mp h2⟩

noncomputable def tA0 : List Nat := [276, 279, 282, 285, 288, 291, 294, 297, 300, 303, 306, 309, 312, 315, 318, 321, 324, 327, 330, 333, 336]
noncomputable def tK0 : List String := ["fab", "h", "pak", "rak", "stak", "kom", "iet", "cit", "dit", "alit", "ilit", "mit", "nit", "pit", "rit", "sit", "tit", "uit", "ivit", "kvit", "xit"]
noncomputable def tU0 : List Int := [-1, -1, -1, -1, -1, -1, -1, -1, -1, -1, -1, -1, -1, -1, -1, -1, -1, -1, -1, -1, -1]
noncomputable def tR0 : List Int := [-1, -1, -1, -1, -1, -1, -1, -1, -1, -1, -1, -1, -1, -1, -1, -1, -1, -1, -1, -1, -1]
noncomputable def tL0 : List (List Nat) := [[98, 97, 102], [104], [107, 97, 112], [107, 97, 114], [107, 97, 116, 115], [109, 111, 107], [116, 101, 105], [116, 105, 99], [116, 105, 100], [116, 105, 108, 97], [116, 105, 108, 105], [116, 105, 109], [116, 105, 110], [116, 105, 112], [116, 105, 114], [116, 105, 115], [116, 105, 116], [116, 105, 117], [116, 105, 118, 105], [116, 105, 118, 107], [116, 105, 120]]
noncomputable def kA0 (i : Nat) : Addr := tA0.getD i 0
noncomputable def kK0 (i : Nat) : Str := Str.ofString (tK0.getD i "")
noncomputable def kU0 (i : Nat) : Int := tU0.getD i 0
noncomputable def kR0 (i : Nat) : Int := tR0.getD i 0
theorem tab0 (P : Params) : TabAt P 338 21 kA0 kK0 kU0 kR0 where
  lst := ⟨0, show (KF P).lookup 338 = some (o338 P) by k_is⟩
  ent := fun i hi => match i, hi with
    | 0, _ => ⟨275, 615, 605, 617, 607, 619, 609, show (KF P).lookup 276 = some (o276 P) by k_is, show (KF P).lookup 275 = some (o275 P) by k_is⟩
    | 1, _ => ⟨278, 630, 620, 632, 622, 634, 624, show (KF P).lookup 279 = some (o279 P) by k_is, show (KF P).lookup 278 = some (o278 P) by k_is⟩
    | 2, _ => ⟨281, 645, 635, 647, 637, 649, 639, show (KF P).lookup 282 = some (o282 P) by k_is, show (KF P).lookup 281 = some (o281 P) by k_is⟩
    | 3, _ => ⟨284, 660, 650, 662, 652, 664, 654, show (KF P).lookup 285 = some (o285 P) by k_is, show (KF P).lookup 284 = some (o284 P) by k_is⟩
    | 4, _ => ⟨287, 675, 665, 677, 667, 679, 669, show (KF P).lookup 288 = some (o288 P) by k_is, show (KF P).lookup 287 = some (o287 P) by k_is⟩
    | 5, _ => ⟨290, 690, 680, 692, 682, 694, 684, show (KF P).lookup 291 = some (o291 P) by k_is, show (KF P).lookup 290 = some (o290 P) by k_is⟩
    | 6, _ => ⟨293, 705, 695, 707, 697, 709, 699, show (KF P).lookup 294 = some (o294 P) by k_is, show (KF P).lookup 293 = some (o293 P) by k_is⟩
    | 7, _ => ⟨296, 720, 710, 722, 712, 724, 714, show (KF P).lookup 297 = some (o297 P) by k_is, show (KF P).lookup 296 = some (o296 P) by k_is⟩
    | 8, _ => ⟨299, 735, 725, 737, 727, 739, 729, show (KF P).lookup 300 = some (o300 P) by k_is, show (KF P).lookup 299 = some (o299 P) by k_is⟩
    | 9, _ => ⟨302, 750, 740, 752, 742, 754, 744, show (KF P).lookup 303 = some (o303 P) by k_is, show (KF P).lookup 302 = some (o302 P) by k_is⟩
    | 10, _ => ⟨305, 765, 755, 767, 757, 769, 759, show (KF P).lookup 306 = some (o306 P) by k_is, show (KF P).lookup 305 = some (o305 P) by k_is⟩
    | 11, _ => ⟨308, 780, 770, 782, 772, 784, 774, show (KF P).lookup 309 = some (o309 P) by k_is, show (KF P).lookup 308 = some (o308 P) by k_is⟩
    | 12, _ => ⟨311, 795, 785, 797, 787, 799, 789, show (KF P).lookup 312 = some (o312 P) by k_is, show (KF P).lookup 311 = some (o311 P) by k_is⟩
    | 13, _ => ⟨314, 810, 800, 812, 802, 814, 804, show (KF P).lookup 315 = some (o315 P) by k_is, show (KF P).lookup 314 = some (o314 P) by k_is⟩
    | 14, _ => ⟨317, 825, 815, 827, 817, 829, 819, show (KF P).lookup 318 = some (o318 P) by k_is, show (KF P).lookup 317 = some (o317 P) by k_is⟩
    | 15, _ => ⟨320, 840, 830, 842, 832, 844, 834, show (KF P).lookup 321 = some (o321 P) by k_is, show (KF P).lookup 320 = some (o320 P) by k_is⟩
    | 16, _ => ⟨323, 855, 845, 857, 847, 859, 849, show (KF P).lookup 324 = some (o324 P) by k_is, show (KF P).lookup 323 = some (o323 P) by k_is⟩
    | 17, _ => ⟨326, 870, 860, 872, 862, 874, 864, show (KF P).lookup 327 = some (o327 P) by k_is, show (KF P).lookup 326 = some (o326 P) by k_is⟩
    | 18, _ => ⟨329, 885, 875, 887, 877, 889, 879, show (KF P).lookup 330 = some (o330 P) by k_is, show (KF P).lookup 329 = some (o329 P) by k_is⟩
    | 19, _ => ⟨332, 900, 890, 902, 892, 904, 894, show (KF P).lookup 333 = some (o333 P) by k_is, show (KF P).lookup 332 = some (o332 P) by k_is⟩
    | 20, _ => ⟨335, 915, 905, 917, 907, 919, 909, show (KF P).lookup 336 = some (o336 P) by k_is, show (KF P).lookup 335 = some (o335 P) by k_is⟩
    | j + 21, h => absurd h (by omega)
  pos := by decide
  few := by decide
  len := by decide +kernel
theorem rk0 : ∀ i, i < 21 → rkOf kK0 i = tL0.getD i [] := by decide +kernel
theorem ok0 : TabOk 21 (rkOf kK0) kU0 := TabOk.congr (tabOk_of (l := tL0) (us := tU0) (by decide +kernel)) rk0

noncomputable def tA1 : List Nat := [340, 343, 346, 349, 352, 355, 358, 361, 364, 367, 370, 373, 376, 379, 382, 385, 388, 391, 394, 397, 400, 403, 406, 409, 412, 415, 418, 421, 424, 427, 430, 433, 436, 439, 442, 445, 448, 451]
noncomputable def tK1 : List String := ["a", "arna", "erna", "heterna", "orna", "ad", "e", "ade", "ande", "arne", "are", "aste", "en", "anden", "aren", "heten", "ern", "ar", "er", "heter", "or", "s", "as", "arnas", "ernas", "ornas", "es", "ades", "andes", "ens", "arens", "hetens", "erns", "at", "et", "andet", "het", "ast"]
noncomputable def tU1 : List Int := [-1, 0, 0, 2, 0, -1, -1, 6, 6, 6, 6, 6, -1, 12, 12, 12, -1, -1, -1, 18, -1, -1, 21, 22, 22, 22, 21, 26, 26, 21, 29, 29, 21, -1, -1, 34, 34, -1]
noncomputable def tR1 : List Int := [1, 1, 1, 1, 1, 1, 1, 1, 1, 1, 1, 1, 1, 1, 1, 1, 1, 1, 1, 1, 1, 2, 1, 1, 1, 1, 1, 1, 1, 1, 1, 1, 1, 1, 3, 1, 1, 1]
noncomputable def tL1 : List (List Nat) := [[97], [97, 110, 114, 97], [97, 110, 114, 101], [97, 110, 114, 101, 116, 101, 104], [97, 110, 114, 111], [100, 97], [101], [101, 100, 97], [101, 100, 110, 97], [101, 110, 114, 97], [101, 114, 97], [101, 116, 115, 97], [110, 101], [110, 101, 100, 110, 97], [110, 101, 114, 97], [110, 101, 116, 101, 104], [110, 114, 101], [114, 97], [114, 101], [114, 101, 116, 101, 104], [114, 111], [115], [115, 97], [115, 97, 110, 114, 97], [115, 97, 110, 114, 101], [115, 97, 110, 114, 111], [115, 101], [115, 101, 100, 97], [115, 101, 100, 110, 97], [115, 110, 101], [115, 110, 101, 114, 97], [115, 110, 101, 116, 101, 104], [115, 110, 114, 101], [116, 97], [116, 101], [116, 101, 100, 110, 97], [116, 101, 104], [116, 115, 97]]
noncomputable def kA1 (i : Nat) : Addr := tA1.getD i 0
noncomputable def kK1 (i : Nat) : Str := Str.ofString (tK1.getD i "")
noncomputable def kU1 (i : Nat) : Int := tU1.getD i 0
noncomputable def kR1 (i : Nat) : Int := tR1.getD i 0
theorem tab1 (P : Params) : TabAt P 453 38 kA1 kK1 kU1 kR1 where
  lst := ⟨0, show (KF P).lookup 453 = some (o453 P) by k_is⟩
  ent := fun i hi => match i, hi with
    | 0, _ => ⟨339, 930, 921, 932, 923, 934, 924, show (KF P).lookup 340 = some (o340 P) by k_is, show (KF P).lookup 339 = some (o339 P) by k_is⟩
    | 1, _ => ⟨342, 943, 935, 945, 936, 947, 937, show (KF P).lookup 343 = some (o343 P) by k_is, show (KF P).lookup 342 = some (o342 P) by k_is⟩
    | 2, _ => ⟨345, 956, 948, 958, 949, 960, 950, show (KF P).lookup 346 = some (o346 P) by k_is, show (KF P).lookup 345 = some (o345 P) by k_is⟩
    | 3, _ => ⟨348, 969, 961, 971, 962, 973, 963, show (KF P).lookup 349 = some (o349 P) by k_is, show (KF P).lookup 348 = some (o348 P) by k_is⟩
    | 4, _ => ⟨351, 982, 974, 984, 975, 986, 976, show (KF P).lookup 352 = some (o352 P) by k_is, show (KF P).lookup 351 = some (o351 P) by k_is⟩
    | 5, _ => ⟨354, 996, 987, 998, 989, 1000, 990, show (KF P).lookup 355 = some (o355 P) by k_is, show (KF P).lookup 354 = some (o354 P) by k_is⟩
    | 6, _ => ⟨357, 1010, 1001, 1012, 1003, 1014, 1004, show (KF P).lookup 358 = some (o358 P) by k_is, show (KF P).lookup 357 = some (o357 P) by k_is⟩
    | 7, _ => ⟨360, 1023, 1015, 1025, 1016, 1027, 1017, show (KF P).lookup 361 = some (o361 P) by k_is, show (KF P).lookup 360 = some (o360 P) by k_is⟩
    | 8, _ => ⟨363, 1036, 1028, 1038, 1029, 1040, 1030, show (KF P).lookup 364 = some (o364 P) by k_is, show (KF P).lookup 363 = some (o363 P) by k_is⟩
    | 9, _ => ⟨366, 1049, 1041, 1051, 1042, 1053, 1043, show (KF P).lookup 367 = some (o367 P) by k_is, show (KF P).lookup 366 = some (o366 P) by k_is⟩
    | 10, _ => ⟨369, 1062, 1054, 1064, 1055, 1066, 1056, show (KF P).lookup 370 = some (o370 P) by k_is, show (KF P).lookup 369 = some (o369 P) by k_is⟩
    | 11, _ => ⟨372, 1075, 1067, 1077, 1068, 1079, 1069, show (KF P).lookup 373 = some (o373 P) by k_is, show (KF P).lookup 372 = some (o372 P) by k_is⟩
    | 12, _ => ⟨375, 1089, 1080, 1091, 1082, 1093, 1083, show (KF P).lookup 376 = some (o376 P) by k_is, show (KF P).lookup 375 = some (o375 P) by k_is⟩
    | 13, _ => ⟨378, 1102, 1094, 1104, 1095, 1106, 1096, show (KF P).lookup 379 = some (o379 P) by k_is, show (KF P).lookup 378 = some (o378 P) by k_is⟩
    | 14, _ => ⟨381, 1115, 1107, 1117, 1108, 1119, 1109, show (KF P).lookup 382 = some (o382 P) by k_is, show (KF P).lookup 381 = some (o381 P) by k_is⟩
    | 15, _ => ⟨384, 1128, 1120, 1130, 1121, 1132, 1122, show (KF P).lookup 385 = some (o385 P) by k_is, show (KF P).lookup 384 = some (o384 P) by k_is⟩
    | 16, _ => ⟨387, 1142, 1133, 1144, 1135, 1146, 1136, show (KF P).lookup 388 = some (o388 P) by k_is, show (KF P).lookup 387 = some (o387 P) by k_is⟩
    | 17, _ => ⟨390, 1156, 1147, 1158, 1149, 1160, 1150, show (KF P).lookup 391 = some (o391 P) by k_is, show (KF P).lookup 390 = some (o390 P) by k_is⟩
    | 18, _ => ⟨393, 1170, 1161, 1172, 1163, 1174, 1164, show (KF P).lookup 394 = some (o394 P) by k_is, show (KF P).lookup 393 = some (o393 P) by k_is⟩
    | 19, _ => ⟨396, 1183, 1175, 1185, 1176, 1187, 1177, show (KF P).lookup 397 = some (o397 P) by k_is, show (KF P).lookup 396 = some (o396 P) by k_is⟩
    | 20, _ => ⟨399, 1197, 1188, 1199, 1190, 1201, 1191, show (KF P).lookup 400 = some (o400 P) by k_is, show (KF P).lookup 399 = some (o399 P) by k_is⟩
    | 21, _ => ⟨402, 1211, 1202, 1213, 1204, 1215, 1205, show (KF P).lookup 403 = some (o403 P) by k_is, show (KF P).lookup 402 = some (o402 P) by k_is⟩
    | 22, _ => ⟨405, 1224, 1216, 1226, 1217, 1228, 1218, show (KF P).lookup 406 = some (o406 P) by k_is, show (KF P).lookup 405 = some (o405 P) by k_is⟩
    | 23, _ => ⟨408, 1237, 1229, 1239, 1230, 1241, 1231, show (KF P).lookup 409 = some (o409 P) by k_is, show (KF P).lookup 408 = some (o408 P) by k_is⟩
    | 24, _ => ⟨411, 1250, 1242, 1252, 1243, 1254, 1244, show (KF P).lookup 412 = some (o412 P) by k_is, show (KF P).lookup 411 = some (o411 P) by k_is⟩
    | 25, _ => ⟨414, 1263, 1255, 1265, 1256, 1267, 1257, show (KF P).lookup 415 = some (o415 P) by k_is, show (KF P).lookup 414 = some (o414 P) by k_is⟩
    | 26, _ => ⟨417, 1276, 1268, 1278, 1269, 1280, 1270, show (KF P).lookup 418 = some (o418 P) by k_is, show (KF P).lookup 417 = some (o417 P) by k_is⟩
    | 27, _ => ⟨420, 1289, 1281, 1291, 1282, 1293, 1283, show (KF P).lookup 421 = some (o421 P) by k_is, show (KF P).lookup 420 = some (o420 P) by k_is⟩
    | 28, _ => ⟨423, 1302, 1294, 1304, 1295, 1306, 1296, show (KF P).lookup 424 = some (o424 P) by k_is, show (KF P).lookup 423 = some (o423 P) by k_is⟩
    | 29, _ => ⟨426, 1315, 1307, 1317, 1308, 1319, 1309, show (KF P).lookup 427 = some (o427 P) by k_is, show (KF P).lookup 426 = some (o426 P) by k_is⟩
    | 30, _ => ⟨429, 1328, 1320, 1330, 1321, 1332, 1322, show (KF P).lookup 430 = some (o430 P) by k_is, show (KF P).lookup 429 = some (o429 P) by k_is⟩
    | 31, _ => ⟨432, 1341, 1333, 1343, 1334, 1345, 1335, show (KF P).lookup 433 = some (o433 P) by k_is, show (KF P).lookup 432 = some (o432 P) by k_is⟩
    | 32, _ => ⟨435, 1354, 1346, 1356, 1347, 1358, 1348, show (KF P).lookup 436 = some (o436 P) by k_is, show (KF P).lookup 435 = some (o435 P) by k_is⟩
    | 33, _ => ⟨438, 1368, 1359, 1370, 1361, 1372, 1362, show (KF P).lookup 439 = some (o439 P) by k_is, show (KF P).lookup 438 = some (o438 P) by k_is⟩
    | 34, _ => ⟨441, 1382, 1373, 1384, 1375, 1386, 1376, show (KF P).lookup 442 = some (o442 P) by k_is, show (KF P).lookup 441 = some (o441 P) by k_is⟩
    | 35, _ => ⟨444, 1395, 1387, 1397, 1388, 1399, 1389, show (KF P).lookup 445 = some (o445 P) by k_is, show (KF P).lookup 444 = some (o444 P) by k_is⟩
    | 36, _ => ⟨447, 1408, 1400, 1410, 1401, 1412, 1402, show (KF P).lookup 448 = some (o448 P) by k_is, show (KF P).lookup 447 = some (o447 P) by k_is⟩
    | 37, _ => ⟨450, 1422, 1413, 1424, 1415, 1426, 1416, show (KF P).lookup 451 = some (o451 P) by k_is, show (KF P).lookup 450 = some (o450 P) by k_is⟩
    | j + 38, h => absurd h (by omega)
  pos := by decide
  few := by decide
  len := by decide +kernel
theorem rk1 : ∀ i, i < 38 → rkOf kK1 i = tL1.getD i [] := by decide +kernel
theorem ok1 : TabOk 38 (rkOf kK1) kU1 := TabOk.congr (tabOk_of (l := tL1) (us := tU1) (by decide +kernel)) rk1

noncomputable def tA2 : List Nat := [455, 458, 461, 464, 467, 470, 473]
noncomputable def tK2 : List String := ["dd", "gd", "nn", "dt", "gt", "kt", "tt"]
noncomputable def tU2 : List Int := [-1, -1, -1, -1, -1, -1, -1]
noncomputable def tR2 : List Int := [-1, -1, -1, -1, -1, -1, -1]
noncomputable def tL2 : List (List Nat) := [[100, 100], [100, 103], [110, 110], [116, 100], [116, 103], [116, 107], [116, 116]]
noncomputable def kA2 (i : Nat) : Addr := tA2.getD i 0
noncomputable def kK2 (i : Nat) : Str := Str.ofString (tK2.getD i "")
noncomputable def kU2 (i : Nat) : Int := tU2.getD i 0
noncomputable def kR2 (i : Nat) : Int := tR2.getD i 0
theorem tab2 (P : Params) : TabAt P 475 7 kA2 kK2 kU2 kR2 where
  lst := ⟨0, show (KF P).lookup 475 = some (o475 P) by k_is⟩
  ent := fun i hi => match i, hi with
    | 0, _ => ⟨454, 1438, 1428, 1440, 1430, 1442, 1432, show (KF P).lookup 455 = some (o455 P) by k_is, show (KF P).lookup 454 = some (o454 P) by k_is⟩
    | 1, _ => ⟨457, 1453, 1443, 1455, 1445, 1457, 1447, show (KF P).lookup 458 = some (o458 P) by k_is, show (KF P).lookup 457 = some (o457 P) by k_is⟩
    | 2, _ => ⟨460, 1468, 1458, 1470, 1460, 1472, 1462, show (KF P).lookup 461 = some (o461 P) by k_is, show (KF P).lookup 460 = some (o460 P) by k_is⟩
    | 3, _ => ⟨463, 1483, 1473, 1485, 1475, 1487, 1477, show (KF P).lookup 464 = some (o464 P) by k_is, show (KF P).lookup 463 = some (o463 P) by k_is⟩
    | 4, _ => ⟨466, 1498, 1488, 1500, 1490, 1502, 1492, show (KF P).lookup 467 = some (o467 P) by k_is, show (KF P).lookup 466 = some (o466 P) by k_is⟩
    | 5, _ => ⟨469, 1513, 1503, 1515, 1505, 1517, 1507, show (KF P).lookup 470 = some (o470 P) by k_is, show (KF P).lookup 469 = some (o469 P) by k_is⟩
    | 6, _ => ⟨472, 1528, 1518, 1530, 1520, 1532, 1522, show (KF P).lookup 473 = some (o473 P) by k_is, show (KF P).lookup 472 = some (o472 P) by k_is⟩
    | j + 7, h => absurd h (by omega)
  pos := by decide
  few := by decide
  len := by decide +kernel
theorem rk2 : ∀ i, i < 7 → rkOf kK2 i = tL2.getD i [] := by decide +kernel
theorem ok2 : TabOk 7 (rkOf kK2) kU2 := TabOk.congr (tabOk_of (l := tL2) (us := tU2) (by decide +kernel)) rk2

noncomputable def tA3 : List Nat := [477, 480, 483, 486, 489]
noncomputable def tK3 : List String := ["ig", "lig", "els", "fullt", "öst"]
noncomputable def tU3 : List Int := [-1, 0, -1, -1, -1]
noncomputable def tR3 : List Int := [1, 1, 1, 3, 2]
noncomputable def tL3 : List (List Nat) := [[103, 105], [103, 105, 108], [115, 108, 101], [116, 108, 108, 117, 102], [116, 115, 246]]
noncomputable def kA3 (i : Nat) : Addr := tA3.getD i 0
noncomputable def kK3 (i : Nat) : Str := Str.ofString (tK3.getD i "")
noncomputable def kU3 (i : Nat) : Int := tU3.getD i 0
noncomputable def kR3 (i : Nat) : Int := tR3.getD i 0
theorem tab3 (P : Params) : TabAt P 491 5 kA3 kK3 kU3 kR3 where
  lst := ⟨0, show (KF P).lookup 491 = some (o491 P) by k_is⟩
  ent := fun i hi => match i, hi with
    | 0, _ => ⟨476, 1543, 1534, 1545, 1536, 1547, 1537, show (KF P).lookup 477 = some (o477 P) by k_is, show (KF P).lookup 476 = some (o476 P) by k_is⟩
    | 1, _ => ⟨479, 1556, 1548, 1558, 1549, 1560, 1550, show (KF P).lookup 480 = some (o480 P) by k_is, show (KF P).lookup 479 = some (o479 P) by k_is⟩
    | 2, _ => ⟨482, 1570, 1561, 1572, 1563, 1574, 1564, show (KF P).lookup 483 = some (o483 P) by k_is, show (KF P).lookup 482 = some (o482 P) by k_is⟩
    | 3, _ => ⟨485, 1584, 1575, 1586, 1577, 1588, 1578, show (KF P).lookup 486 = some (o486 P) by k_is, show (KF P).lookup 485 = some (o485 P) by k_is⟩
    | 4, _ => ⟨488, 1598, 1589, 1600, 1591, 1602, 1592, show (KF P).lookup 489 = some (o489 P) by k_is, show (KF P).lookup 488 = some (o488 P) by k_is⟩
    | j + 5, h => absurd h (by omega)
  pos := by decide
  few := by decide
  len := by decide +kernel
theorem rk3 : ∀ i, i < 5 → rkOf kK3 i = tL3.getD i [] := by decide +kernel
theorem ok3 : TabOk 5 (rkOf kK3) kU3 := TabOk.congr (tabOk_of (l := tL3) (us := tU3) (by decide +kernel)) rk3
end
-- W10
section
open PySem PySem.W PySem.Calls PyProof.Rows PySem.Spec

theorem unstop10 {P : Prop} (h : P) : Stop P := by unfold Stop; exact h
theorem stopped10 {P : Prop} (h : Stop P) : P := by unfold Stop at h; exact h

theorem Meth.weaken {w : World} {D U : Nat} {f : Addr} {args : List Value} {pre : St → Prop} {post post' : St → Value → St → Prop} (S : Meth w D U f args pre post) (h : ∀ σ r σ', pre σ → post σ r σ' → post' σ r σ') : Meth w D U f args pre post' := by
  constructor
  intro mean mg mb A₀ A base h₀ env outer L m s x dx o σ rest Q E B F X N T XB TB hrest hxd hA hf hk hd hu hσ hp hQ
  exact S.run B F X N T XB TB hrest hxd hA hf hk hd hu hσ hp fun r σ' o' h' tk' a b c d => hQ r σ' o' h' tk' a (h σ r σ' hp b) c d
theorem MethC.weaken {w : World} {D U : Nat} {f : Addr} {args : List Value} {pre : St → Prop} {post post' : St → Value → St → Prop} (S : MethC w D U f args pre post) (h : ∀ σ r σ', pre σ → post σ r σ' → post' σ r σ') : MethC w D U f args pre post' := by
  constructor
  intro mean mg mb A₀ A base h₀ env outer L m s x dx o σ rest Q E B F X N T XB TB DK hh hrest hxd hA hf hk hd hu hσ hp hQ
  exact S.run B F X N T XB TB DK hh hrest hxd hA hf hk hd hu hσ hp fun r σ' o' h' tk' h₀' a b => hQ r σ' o' h' tk' h₀' a (h σ r σ' hp b)

theorem c_out_b (w : World) (a : Addr) (xs : List (Nat × Tok)) (hS : SetAt w a xs) {cur : Str} {c lim lb bra ket p1 : Int} : Meth7 w 2 20 105 [.ref a] cur c lim lb bra ket p1 (0 ≤ lb ∧ c ≤ cur.length ∧ cur.length ≤ 1000 ∧ 0 ≤ c)
    (fun K => ((lb < c ∧ memOf xs (Txt.item cur (c - 1)) = false) → K (.bool true) cur (c - 1) lim lb bra ket p1) ∧
      ((c ≤ lb ∨ memOf xs (Txt.item cur (c - 1)) = true) → K (.bool false) cur c lim lb bra ket p1)) := by
  refine ⟨_, _, m_out_grouping_b w a xs hS, fun ⟨a, b, d, e⟩ => ⟨⟨a, b, d, e⟩, rfl⟩, ?_⟩
  rintro K ⟨q1, q2⟩ r σ' ⟨h1, h2⟩
  dsimp only at h1 h2
  by_cases hc : lb < c
  · cases hm : memOf xs (Txt.item cur (c - 1)) with
    | false => rw [hm, decide_eq_true hc] at h1 h2; subst h1; subst h2; exact ⟨_, _, _, _, _, _, _, rfl, q1 ⟨hc, hm⟩⟩
    | true => rw [hm, decide_eq_true hc] at h1 h2; subst h1; subst h2; exact ⟨_, _, _, _, _, _, _, rfl, q2 (.inr hm)⟩
  · rw [decide_eq_false hc] at h1 h2; subst h1; subst h2; exact ⟨_, _, _, _, _, _, _, rfl, q2 (.inl (Int.not_lt.mp hc))⟩
theorem c_in_b (w : World) (a : Addr) (xs : List (Nat × Tok)) (hS : SetAt w a xs) {cur : Str} {c lim lb bra ket p1 : Int} : Meth7 w 2 20 77 [.ref a] cur c lim lb bra ket p1 (0 ≤ lb ∧ c ≤ cur.length ∧ cur.length ≤ 1000 ∧ 0 ≤ c)
    (fun K => ((lb < c ∧ memOf xs (Txt.item cur (c - 1)) = true) → K (.bool true) cur (c - 1) lim lb bra ket p1) ∧
      ((c ≤ lb ∨ memOf xs (Txt.item cur (c - 1)) = false) → K (.bool false) cur c lim lb bra ket p1)) := by
  refine ⟨_, _, m_in_grouping_b w a xs hS, fun ⟨a, b, d, e⟩ => ⟨⟨a, b, d, e⟩, rfl⟩, ?_⟩
  rintro K ⟨q1, q2⟩ r σ' ⟨h1, h2⟩
  dsimp only at h1 h2
  by_cases hc : lb < c
  · cases hm : memOf xs (Txt.item cur (c - 1)) with
    | true => rw [hm, decide_eq_true hc] at h1 h2; subst h1; subst h2; exact ⟨_, _, _, _, _, _, _, rfl, q1 ⟨hc, hm⟩⟩
    | false => rw [hm, decide_eq_true hc] at h1 h2; subst h1; subst h2; exact ⟨_, _, _, _, _, _, _, rfl, q2 (.inr hm)⟩
  · rw [decide_eq_false hc] at h1 h2; subst h1; subst h2; exact ⟨_, _, _, _, _, _, _, rfl, q2 (.inl (Int.not_lt.mp hc))⟩

/-- the longest of the table's words that end the text -/
noncomputable def Hit (n : Nat) (K : Nat → Str) (cur : Str) (lb c : Int) (k : Nat) : Prop := k < n ∧ rkOf K k <+: revOf cur lb c ∧ ∀ M, M < n → rkOf K M <+: revOf cur lb c → (rkOf K M).length ≤ (rkOf K k).length
noncomputable def NoHit (n : Nat) (K : Nat → Str) (cur : Str) (lb c : Int) : Prop := ∀ M, M < n → ¬ rkOf K M <+: revOf cur lb c

theorem c_find (w : World) (a : Addr) (n : Nat) (ad K U R) (hT : TabAt w.params a n ad K U R) (hO : TabOk n (rkOf K) U) {cur : Str} {c lim lb bra ket p1 : Int} : MethC7 w 4 40 140 [.ref a] cur c lim lb bra ket p1 (0 ≤ lb ∧ c ≤ cur.length ∧ cur.length ≤ 1000 ∧ 0 ≤ c ∧ lb ≤ c ∧ lim = cur.length)
    (fun Z => (∀ k t, Hit n K cur lb c k → (lb ≤ c - (K k).length ∧ 1 ≤ (K k).length) → Z (.int (R k) t) cur (c - (K k).length) lim lb bra ket p1) ∧ (∀ t, NoHit n K cur lb c → Z (.int 0 t) cur c lim lb bra ket p1)) := by
  refine MethC7.mk_ (m_find_among_b w a n ad K U R hT hO) (fun ⟨a, b, d, e, f, g⟩ => ⟨⟨a, b, d, e⟩, rfl, f, b, g⟩) ?_
  rintro ⟨b1, b2, b3, b4, b5, b6⟩ Z ⟨q1, q2⟩ r σ' (⟨k, t, h1, h2, h3, rfl, rfl⟩ | ⟨h1, rfl, t, rfl⟩)
  · have hl := h2.length_le
    rw [len_rk, len_rev b1 b5 b2] at hl
    have := hT.len k h1
    exact ⟨_, _, _, _, _, _, _, rfl, q1 k t ⟨h1, h2, h3⟩ ⟨by omega, this.1⟩⟩
  · exact ⟨_, _, _, _, _, _, _, rfl, q2 t h1⟩
theorem res0 : ∀ k, k < 21 → kR0 k = -1 := by decide
theorem c_find0 (w : World) {cur : Str} {c lim lb bra ket p1 : Int} : MethC7 w 4 40 140 [.ref 338] cur c lim lb bra ket p1 (0 ≤ lb ∧ c ≤ cur.length ∧ cur.length ≤ 1000 ∧ 0 ≤ c ∧ lb ≤ c ∧ lim = cur.length)
    (fun Z => (∀ k t, Hit 21 kK0 cur lb c k → (lb ≤ c - (kK0 k).length ∧ 1 ≤ (kK0 k).length) → Z (.int (-1) t) cur (c - (kK0 k).length) lim lb bra ket p1) ∧ (∀ t, NoHit 21 kK0 cur lb c → Z (.int 0 t) cur c lim lb bra ket p1)) :=
  (c_find w 338 21 _ _ _ _ (tab0 _) ok0).mono fun Z ⟨q1, q2⟩ => ⟨fun k t h1 h2 => by rw [res0 k h1.1]; exact q1 k t h1 h2, q2⟩

/-- what must hold before an 'et' -/
noncomputable def EtOk (cur : Str) (lb c : Int) : Prop := lb < c - 2 ∧ memOf xs0 (Txt.item cur (c - 1)) = false ∧ memOf xs0 (Txt.item cur (c - 2)) = true ∧ NoHit 21 kK0 cur lb c
set_option hygiene false in
local macro_rules | `(tactic| walk_at "call ref") => `(tactic| (k_here; k_dflt (apply MethC7.use (c_find0 _); walk_at "g7"; walk_at "gC"); walk_at "o7"))
set_option hygiene false in
local macro_rules | `(tactic| walk_at "call ref") => `(tactic| (k_here; k_dflt ((first | apply Meth7.use (c_out_b _ 230 xs0 (set230 _)) | apply Meth7.use (c_in_b _ 230 xs0 (set230 _))); walk_at "g7"; walk_at "gM"); walk_at "o7"))

set_option maxHeartbeats 8000000 in
theorem m_r_et_condition (w : World) : MethC w 8 80 246 [] (fun σ => σ.ok ∧ σ.p1.isSome = true ∧ σ.lb ≤ σ.c ∧ σ.lim = σ.cur.length)
    (fun σ r σ' => (EtOk σ.cur σ.lb σ.c ∧ σ' = σ ∧ r = .bool true) ∨ (¬ EtOk σ.cur σ.lb σ.c ∧ (∃ c', (0 ≤ c' ∧ c' ≤ σ.c) ∧ σ' = { σ with c := c' }) ∧ r = .bool false)) := by
  refine MethC.of7 (fun σ h => by first | exact h.2.1 | exact h.2) ?_
  intro mean mg mb A₀ A base h₀ env outer L m sh sg sd st so x dx rest Q E zk cur c lim lb bra ket p1 B F X N T XB TB DK hh hrest hxd hA hf hk hd hu hp hQ
  have hxd2 := neN hxd
  obtain ⟨⟨b1, b2, b3, b4⟩, b5, b6, b7⟩ := hp
  dsimp only at b1 b2 b3 b4 b5 b6 b7
  clear b5
  (try dsimp only at hQ)
  have hcc : lim - (lim - c) = c := by omega
  have hT2 : ∀ {c' : Int} {o' : Obj} {h' : Heap} {tk' : Tok} {h₀' : Heap}, DictIs w.params ⟨cur, c', lim, lb, bra, ket, some p1⟩ o' → c' = c → EtOk cur lb c → KtsTurn (frs outer) h₀ h₀' → Fr h₀' L h' m → News h₀' L h' ((x, instObj 494 dx) :: (dx, o') :: rest) → Below A₀ base outer h₀' → (KF w.params).In h₀' → Top vq (looseW vq vloose) mean mg mb h₀' → KtsDicts (frs outer) h₀' → Q (.bool true) ⟨h', sg, sd, tk', so⟩ := by
    intro c' o' h' tk' h₀' a e b
    subst e
    exact hQ _ _ _ _ _ _ a (Or.inl ⟨b, rfl, rfl⟩)
  have hF2 : ∀ {c' : Int} {o' : Obj} {h' : Heap} {tk' : Tok} {h₀' : Heap}, DictIs w.params ⟨cur, c', lim, lb, bra, ket, some p1⟩ o' → (0 ≤ c' ∧ c' ≤ c) → ¬ EtOk cur lb c → KtsTurn (frs outer) h₀ h₀' → Fr h₀' L h' m → News h₀' L h' ((x, instObj 494 dx) :: (dx, o') :: rest) → Below A₀ base outer h₀' → (KF w.params).In h₀' → Top vq (looseW vq vloose) mean mg mb h₀' → KtsDicts (frs outer) h₀' → Q (.bool false) ⟨h', sg, sd, tk', so⟩ := by
    intro c' o' h' tk' h₀' a e b
    exact hQ _ _ _ _ _ _ a (Or.inr ⟨b, ⟨c', e, rfl⟩, rfl⟩)
  walk_at "m_enterT"
  walk_at "m_steps"
  all_goals (try dsimp only)
  · (refine' hF2 ?cd ?bnd ?ne ?cT ?cF ?cN ?cB ?cX ?cP ?cD; (case cF => first | with_reducible assumption | assumption); (case cN => first | with_reducible assumption | assumption); (case cT => first | with_reducible assumption | exact KtsTurn.refl | assumption); (case cB => first | with_reducible assumption | assumption); (case cX => first | with_reducible assumption | assumption); (case cP => first | with_reducible assumption | assumption); (case cD => first | with_reducible assumption | assumption); (case cd => exact dict_some); (case bnd => exact ⟨by omega, by omega⟩); (case ne => exact (fun ⟨e1, _⟩ => by omega)))
  · rename Hit _ _ _ _ _ _ => fH
    rw [hcc] at fH
    (refine' hF2 ?cd ?bnd ?ne ?cT ?cF ?cN ?cB ?cX ?cP ?cD; (case cF => first | with_reducible assumption | assumption); (case cN => first | with_reducible assumption | assumption); (case cT => first | with_reducible assumption | exact KtsTurn.refl | assumption); (case cB => first | with_reducible assumption | assumption); (case cX => first | with_reducible assumption | assumption); (case cP => first | with_reducible assumption | assumption); (case cD => first | with_reducible assumption | assumption); (case cd => exact dict_some); (case bnd => exact ⟨by omega, by omega⟩); (case ne => exact (fun ⟨_, _, _, e4⟩ => e4 _ fH.1 fH.2.1)))
  · rename NoHit _ _ _ _ _ => fH
    rw [hcc] at fH
    rename (_ ∧ memOf xs0 (Txt.item _ _) = true) => fB
    rename (_ ∧ memOf xs0 (Txt.item _ _) = false) => fA
    rw [show c - 1 - 1 = c - 2 by omega] at fB
    (refine' hT2 ?cd ?bnd ?ne ?cT ?cF ?cN ?cB ?cX ?cP ?cD; (case cF => first | with_reducible assumption | assumption); (case cN => first | with_reducible assumption | assumption); (case cT => first | with_reducible assumption | exact KtsTurn.refl | assumption); (case cB => first | with_reducible assumption | assumption); (case cX => first | with_reducible assumption | assumption); (case cP => first | with_reducible assumption | assumption); (case cD => first | with_reducible assumption | assumption); (case cd => exact dict_some); (case bnd => exact (by omega)); (case ne => exact ⟨by omega, fA.2, fB.2, fH⟩))
  · rename (_ ∨ _) => fB
    rw [show c - 1 - 1 = c - 2 by omega] at fB
    (refine' hF2 ?cd ?bnd ?ne ?cT ?cF ?cN ?cB ?cX ?cP ?cD; (case cF => first | with_reducible assumption | assumption); (case cN => first | with_reducible assumption | assumption); (case cT => first | with_reducible assumption | exact KtsTurn.refl | assumption); (case cB => first | with_reducible assumption | assumption); (case cX => first | with_reducible assumption | assumption); (case cP => first | with_reducible assumption | assumption); (case cD => first | with_reducible assumption | assumption); (case cd => exact dict_some); (case bnd => exact ⟨by omega, by omega⟩); (case ne => exact (fun ⟨e1, _, e3, _⟩ => fB.elim (fun h => by omega) (fun h => by rw [h] at e3; cases e3))))
  · rename (_ ∨ _) => fB
    (refine' hF2 ?cd ?bnd ?ne ?cT ?cF ?cN ?cB ?cX ?cP ?cD; (case cF => first | with_reducible assumption | assumption); (case cN => first | with_reducible assumption | assumption); (case cT => first | with_reducible assumption | exact KtsTurn.refl | assumption); (case cB => first | with_reducible assumption | assumption); (case cX => first | with_reducible assumption | assumption); (case cP => first | with_reducible assumption | assumption); (case cD => first | with_reducible assumption | assumption); (case cd => exact dict_some); (case bnd => exact ⟨by omega, by omega⟩); (case ne => exact (fun ⟨e1, e2, _, _⟩ => fB.elim (fun h => by omega) (fun h => by rw [h] at e2; cases e2))))
theorem c_et (w : World) {cur : Str} {c lim lb bra ket p1 : Int} : MethC7 w 8 80 246 [] cur c lim lb bra ket p1 (0 ≤ lb ∧ c ≤ cur.length ∧ cur.length ≤ 1000 ∧ 0 ≤ c ∧ lb ≤ c ∧ lim = cur.length)
    (fun K => (EtOk cur lb c → K (.bool true) cur c lim lb bra ket p1) ∧ (∀ c', ¬ EtOk cur lb c → (0 ≤ c' ∧ c' ≤ c) → K (.bool false) cur c' lim lb bra ket p1)) := by
  refine ⟨_, _, m_r_et_condition w, fun ⟨a, b, d, e, f, g⟩ => ⟨⟨a, b, d, e⟩, rfl, f, g⟩, ?_⟩
  rintro K ⟨q1, q2⟩ r σ' (⟨h1, rfl, rfl⟩ | ⟨h1, ⟨c', h2, rfl⟩, rfl⟩)
  · exact ⟨_, _, _, _, _, _, _, rfl, q1 h1⟩
  · exact ⟨_, _, _, _, _, _, _, rfl, q2 c' h1 h2⟩
end
-- W11
section
open PySem PySem.W PySem.Calls PyProof.Rows PySem.Spec
local macro_rules | `(tactic| walk_at "pad0") => `(tactic| skip)

theorem unstop11 {P : Prop} (h : P) : Stop P := by unfold Stop; exact h
theorem stopped11 {P : Prop} (h : Stop P) : P := by unfold Stop at h; exact h

noncomputable def cutST (cur : Str) (b k : Int) (v : Str) : Str := Txt.slice cur (some 0) (some b) ++ v ++ Txt.slice cur (some k) none
theorem cps_app (a b : Str) : (a ++ b).cps = a.cps ++ b.cps := rfl
theorem cut_listT {cur v : Str} {b k : Int} (h0 : 0 ≤ b) (h1 : b ≤ k) (h2 : k ≤ cur.length) : (cutST cur b k v).cps.toList = cur.cps.toList.take b.toNat ++ v.cps.toList ++ cur.cps.toList.drop k.toNat := by
  have hs : cur.length = cur.cps.size := rfl
  have e1 := beq_iff_eq.mp (slice_closes (x := cur) (i := 0) (j := b) ⟨by omega, h0, by rw [Array.length_toList]; omega⟩)
  have e2 := beq_iff_eq.mp (slice_closes_from (x := cur) (i := k) ⟨by omega, by rw [Array.length_toList]; omega⟩)
  unfold cutST
  have e3 : List.take (↑cur.cps.toList.length - k).toNat (List.drop k.toNat cur.cps.toList) = List.drop k.toNat cur.cps.toList := List.take_of_length_le (by rw [List.length_drop]; omega)
  rw [e3] at e2
  rw [cps_app, cps_app, e1, e2]
  simp
theorem len_cutT {cur v : Str} {b k : Int} (h0 : 0 ≤ b) (h1 : b ≤ k) (h2 : k ≤ cur.length) : ((cutST cur b k v).length : Int) = b + v.length + (cur.length - k) := by
  have hs : cur.length = cur.cps.size := rfl
  have hl : ∀ x : Str, x.length = x.cps.toList.length := fun x => by rw [Array.length_toList]; rfl
  rw [hl, cut_listT h0 h1 h2, hl v]
  obtain ⟨b, rfl⟩ := Int.eq_ofNat_of_zero_le h0
  obtain ⟨k, rfl⟩ := Int.eq_ofNat_of_zero_le (Int.le_trans h0 h1)
  have h3 : k ≤ cur.length := Int.ofNat_le.mp h2
  have h4 : b ≤ cur.length := Nat.le_trans (Int.ofNat_le.mp h1) h3
  simp only [List.length_append, List.length_take, List.length_drop, Array.length_toList, Int.toNat_natCast]
  rw [← hs, Nat.min_eq_left h4]
  omega
theorem emp_len : (Str.ofString "").length = 0 := by decide
theorem os_len : (Str.ofString "ös").length = 2 := by decide +kernel
theorem full_len : (Str.ofString "full").length = 4 := by decide +kernel
theorem et_len : (Str.ofString "et").length = 2 := by decide +kernel
theorem m_slice_from2T (w : World) (v : Str) (t : Tok) (hv : v.length ≤ 1000) : Meth w 4 40 154 [.str v t] (fun σ => σ.ok ∧ σ.p1.isSome = true ∧ 0 ≤ σ.bra ∧ σ.bra ≤ σ.ket ∧ σ.ket ≤ σ.lim ∧ σ.lim = σ.cur.length)
    (fun σ r σ' => ∃ c' : Int, (0 ≤ c' ∧ c' ≤ (cutST σ.cur σ.bra σ.ket v).length) ∧ ((cutST σ.cur σ.bra σ.ket v).length : Int) = σ.bra + v.length + (σ.cur.length - σ.ket) ∧ σ' = ⟨cutST σ.cur σ.bra σ.ket v, c', (cutST σ.cur σ.bra σ.ket v).length, σ.lb, σ.bra, σ.bra + v.length, σ.p1⟩ ∧ r = .none) :=
  (m_slice_from w v t hv).weaken fun σ r σ' hp h => by
    obtain ⟨⟨b1, b2, b3, b4⟩, b5, b6, b7, b8, b9⟩ := hp
    obtain ⟨h1, h2⟩ := h
    have hl := len_cutT (cur := σ.cur) (v := v) b6 b7 (by omega)
    refine ⟨if σ.ket ≤ σ.c then σ.c + (v.length - (σ.ket - σ.bra)) else if σ.bra < σ.c then σ.bra else σ.c, ⟨?_, ?_⟩, hl, ?_, h2⟩
    · split
      · omega
      · split <;> omega
    · rw [hl]
      split
      · omega
      · split <;> omega
    · subst h1
      simp only [repSt, cutST, St.mk.injEq, and_true, true_and] at hl ⊢
      rw [hl]; omega
theorem m_slice_del2T (w : World) : Meth w 6 50 161 [] (fun σ => σ.ok ∧ σ.p1.isSome = true ∧ 0 ≤ σ.bra ∧ σ.bra ≤ σ.ket ∧ σ.ket ≤ σ.lim ∧ σ.lim = σ.cur.length)
    (fun σ r σ' => ∃ c' : Int, (0 ≤ c' ∧ c' ≤ (cutST σ.cur σ.bra σ.ket (Str.ofString "")).length) ∧ ((cutST σ.cur σ.bra σ.ket (Str.ofString "")).length : Int) = σ.bra + (σ.cur.length - σ.ket) ∧ σ' = ⟨cutST σ.cur σ.bra σ.ket (Str.ofString ""), c', (cutST σ.cur σ.bra σ.ket (Str.ofString "")).length, σ.lb, σ.bra, σ.bra, σ.p1⟩ ∧ r = .none) :=
  (m_slice_del w).weaken fun σ r σ' hp h => by
    obtain ⟨⟨b1, b2, b3, b4⟩, b5, b6, b7, b8, b9⟩ := hp
    obtain ⟨h1, h2⟩ := h
    have hl := len_cutT (cur := σ.cur) (v := Str.ofString "") b6 b7 (by omega)
    rw [emp_len] at hl h1
    have hl2 : ((cutST σ.cur σ.bra σ.ket (Str.ofString "")).length : Int) = σ.bra + (σ.cur.length - σ.ket) := by omega
    refine ⟨if σ.ket ≤ σ.c then σ.c + (0 - (σ.ket - σ.bra)) else if σ.bra < σ.c then σ.bra else σ.c, ⟨?_, ?_⟩, hl2, ?_, h2⟩
    · split
      · omega
      · split <;> omega
    · rw [hl2]
      split
      · omega
      · split <;> omega
    · subst h1
      simp only [repSt, cutST, St.mk.injEq, and_true, true_and, emp_len] at hl2 ⊢
      rw [hl2]
      refine ⟨?_, ?_, ?_⟩ <;> first | rfl | omega
@[irreducible] noncomputable def cutS (cur : Str) (b k : Int) (v : Str) : Str := cutST cur b k v
theorem cutS_eq (cur : Str) (b k : Int) (v : Str) : cutS cur b k v = cutST cur b k v := by unfold cutS; rfl
theorem cut_list {cur v : Str} {b k : Int} (h0 : 0 ≤ b) (h1 : b ≤ k) (h2 : k ≤ cur.length) : (cutS cur b k v).cps.toList = cur.cps.toList.take b.toNat ++ v.cps.toList ++ cur.cps.toList.drop k.toNat := by rw [cutS_eq]; exact cut_listT h0 h1 h2
theorem len_cut {cur v : Str} {b k : Int} (h0 : 0 ≤ b) (h1 : b ≤ k) (h2 : k ≤ cur.length) : ((cutS cur b k v).length : Int) = b + v.length + (cur.length - k) := by rw [cutS_eq]; exact len_cutT h0 h1 h2
theorem m_slice_from2 (w : World) (v : Str) (t : Tok) (hv : v.length ≤ 1000) : Meth w 4 40 154 [.str v t] (fun σ => σ.ok ∧ σ.p1.isSome = true ∧ 0 ≤ σ.bra ∧ σ.bra ≤ σ.ket ∧ σ.ket ≤ σ.lim ∧ σ.lim = σ.cur.length)
    (fun σ r σ' => ∃ c' : Int, (0 ≤ c' ∧ c' ≤ (cutS σ.cur σ.bra σ.ket v).length) ∧ ((cutS σ.cur σ.bra σ.ket v).length : Int) = σ.bra + v.length + (σ.cur.length - σ.ket) ∧ σ' = ⟨cutS σ.cur σ.bra σ.ket v, c', (cutS σ.cur σ.bra σ.ket v).length, σ.lb, σ.bra, σ.bra + v.length, σ.p1⟩ ∧ r = .none) := by simp only [cutS_eq]; exact m_slice_from2T w v t hv
theorem m_slice_del2 (w : World) : Meth w 6 50 161 [] (fun σ => σ.ok ∧ σ.p1.isSome = true ∧ 0 ≤ σ.bra ∧ σ.bra ≤ σ.ket ∧ σ.ket ≤ σ.lim ∧ σ.lim = σ.cur.length)
    (fun σ r σ' => ∃ c' : Int, (0 ≤ c' ∧ c' ≤ (cutS σ.cur σ.bra σ.ket (Str.ofString "")).length) ∧ ((cutS σ.cur σ.bra σ.ket (Str.ofString "")).length : Int) = σ.bra + (σ.cur.length - σ.ket) ∧ σ' = ⟨cutS σ.cur σ.bra σ.ket (Str.ofString ""), c', (cutS σ.cur σ.bra σ.ket (Str.ofString "")).length, σ.lb, σ.bra, σ.bra, σ.p1⟩ ∧ r = .none) := by simp only [cutS_eq]; exact m_slice_del2T w
theorem res1 : ∀ k, k < 38 → kR1 k = 1 ∨ kR1 k = 2 ∨ kR1 k = 3 := by decide
theorem res2 : ∀ k, k < 7 → kR2 k = -1 := by decide
theorem res3 : ∀ k, k < 5 → kR3 k = 1 ∨ kR3 k = 2 ∨ kR3 k = 3 := by decide
theorem c_slice_from2 (w : World) (v : Str) (t : Tok) (hv : v.length ≤ 1000) {cur : Str} {c lim lb bra ket p1 : Int} : Meth7 w 4 40 154 [.str v t] cur c lim lb bra ket p1 (0 ≤ lb ∧ c ≤ cur.length ∧ cur.length ≤ 1000 ∧ 0 ≤ c ∧ 0 ≤ bra ∧ bra ≤ ket ∧ ket ≤ lim ∧ lim = cur.length)
    (fun K => ∀ c' : Int, (0 ≤ c' ∧ c' ≤ (cutS cur bra ket v).length) → ((cutS cur bra ket v).length : Int) = bra + v.length + (cur.length - ket) → K .none (cutS cur bra ket v) c' (cutS cur bra ket v).length lb bra (bra + v.length) p1) := by
  refine ⟨_, _, m_slice_from2 w v t hv, fun ⟨a, b, d, e, f, g, h, i⟩ => ⟨⟨a, b, d, e⟩, rfl, f, g, h, i⟩, ?_⟩
  rintro K q r σ' ⟨c', h1, h2, rfl, rfl⟩
  exact ⟨_, _, _, _, _, _, _, rfl, q c' h1 h2⟩
theorem c_slice_del2 (w : World) {cur : Str} {c lim lb bra ket p1 : Int} : Meth7 w 6 50 161 [] cur c lim lb bra ket p1 (0 ≤ lb ∧ c ≤ cur.length ∧ cur.length ≤ 1000 ∧ 0 ≤ c ∧ 0 ≤ bra ∧ bra ≤ ket ∧ ket ≤ lim ∧ lim = cur.length)
    (fun K => ∀ c' : Int, (0 ≤ c' ∧ c' ≤ (cutS cur bra ket (Str.ofString "")).length) → ((cutS cur bra ket (Str.ofString "")).length : Int) = bra + (cur.length - ket) → K .none (cutS cur bra ket (Str.ofString "")) c' (cutS cur bra ket (Str.ofString "")).length lb bra bra p1) := by
  refine ⟨_, _, m_slice_del2 w, fun ⟨a, b, d, e, f, g, h, i⟩ => ⟨⟨a, b, d, e⟩, rfl, f, g, h, i⟩, ?_⟩
  rintro K q r σ' ⟨c', h1, h2, rfl, rfl⟩
  exact ⟨_, _, _, _, _, _, _, rfl, q c' h1 h2⟩
theorem c_find2 (w : World) {cur : Str} {c lim lb bra ket p1 : Int} : MethC7 w 4 40 140 [.ref 475] cur c lim lb bra ket p1 (0 ≤ lb ∧ c ≤ cur.length ∧ cur.length ≤ 1000 ∧ 0 ≤ c ∧ lb ≤ c ∧ lim = cur.length)
    (fun Z => (∀ k t, Hit 7 kK2 cur lb c k → (lb ≤ c - (kK2 k).length ∧ 1 ≤ (kK2 k).length) → Z (.int (-1) t) cur (c - (kK2 k).length) lim lb bra ket p1) ∧ (∀ t, NoHit 7 kK2 cur lb c → Z (.int 0 t) cur c lim lb bra ket p1)) :=
  (c_find w 475 7 _ _ _ _ (tab2 _) ok2).mono fun Z ⟨q1, q2⟩ => ⟨fun k t h1 h2 => by rw [res2 k h1.1]; exact q1 k t h1 h2, q2⟩
noncomputable def PairR (cur : Str) (p : Int) (cur' : Str) : Prop :=
  (((cur.length : Int) < p ∨ NoHit 7 kK2 cur p cur.length) ∧ cur' = cur) ∨
  (p ≤ cur.length ∧ (∃ k, Hit 7 kK2 cur p cur.length k) ∧ cur' = cutS cur (cur.length - 1) cur.length (Str.ofString ""))
set_option hygiene false in
local macro_rules | `(tactic| walk_at "call ref") => `(tactic| (k_here; k_dflt (apply MethC7.use (c_find2 _); walk_at "g7"; walk_at "gC"); walk_at "o7"))
set_option hygiene false in
local macro_rules | `(tactic| walk_at "call ref") => `(tactic| (k_here; k_dflt (apply Meth7.use (c_slice_del2 _); walk_at "g7"; walk_at "gM"); walk_at "o7"))

set_option maxHeartbeats 8000000 in
theorem m_r_consonant_pair (w : World) : MethC w 10 100 260 [] (fun σ => σ.ok ∧ σ.lb = 0 ∧ σ.lim = σ.cur.length ∧ σ.c = σ.cur.length ∧ ∃ p, σ.p1 = some p ∧ 0 ≤ p)
    (fun σ r σ' => ∃ cur' c' b' k', σ' = ⟨cur', c', cur'.length, 0, b', k', σ.p1⟩ ∧ (0 ≤ c' ∧ c' ≤ (cur'.length : Int)) ∧ cur'.length ≤ σ.cur.length ∧ PairR σ.cur (σ.p1.getD 0) cur') := by
  constructor
  intro mean mg mb A₀ A base h₀ env outer L m s x dx o σ rest Q E B F X N T XB TB DK hh hrest hxd hA hf hk hd hu hσ hp hQ
  have hxd2 := neN hxd
  obtain ⟨cur, c, lim, lb, bra, ket, p1⟩ := σ
  obtain ⟨sh, sg, sd, st, so⟩ := s
  dsimp only at F N hQ
  obtain ⟨⟨b1, b2, b3, b4⟩, b5, b6, b7, p1, b8, b9⟩ := hp
  dsimp only at b1 b2 b3 b4 b5 b6 b7 b8
  subst b8
  subst b5
  subst b6
  subst b7
  obtain ⟨zk, rfl⟩ := kap7 hσ
  (try dsimp only at N hQ)
  have hQ2 : ∀ {r : Value} {cur' : Str} {c' l' b' k' lb' : Int} {o' : Obj} {h' : Heap} {tk' : Tok} {h₀' : Heap}, DictIs w.params ⟨cur', c', l', lb', b', k', some p1⟩ o' → lb' = 0 → l' = cur'.length → (0 ≤ c' ∧ c' ≤ cur'.length) → cur'.length ≤ cur.length → PairR cur p1 cur' → KtsTurn (frs outer) h₀ h₀' → Fr h₀' L h' m → News h₀' L h' ((x, instObj 494 dx) :: (dx, o') :: rest) → Below A₀ base outer h₀' → (KF w.params).In h₀' → Top vq (looseW vq vloose) mean mg mb h₀' → KtsDicts (frs outer) h₀' → Q r ⟨h', sg, sd, tk', so⟩ := by
    intro r cur' c' l' b' k' lb' o' h' tk' h₀' a e0 e1 e2 e3 e4
    subst e1
    subst e0
    exact hQ _ _ _ _ _ _ a ⟨cur', c', b', k', rfl, e2, e3, e4⟩
  dsimp only [Option.getD_some] at hQ
  clear hQ
  walk_at "m_enterT"
  walk_at "m_steps"
  all_goals (try dsimp only)
  · (refine' hQ2 ?cd ?lb ?ln ?cc ?le ?rl ?cT ?cF ?cN ?cB ?cX ?cP ?cD; (case cF => first | with_reducible assumption | assumption); (case cN => first | with_reducible assumption | assumption); (case cT => first | with_reducible assumption | exact KtsTurn.refl | assumption); (case cB => first | with_reducible assumption | assumption); (case cX => first | with_reducible assumption | assumption); (case cP => first | with_reducible assumption | assumption); (case cD => first | with_reducible assumption | assumption); (case cd => exact dict_some); (case lb => first | rfl | omega); (case ln => first | rfl | omega); (case cc => (refine ⟨?_, ?_⟩ <;> omega)); (case le => first | exact Nat.le_refl _ | omega))
    case rl => exact Or.inl ⟨Or.inl (by omega), rfl⟩
  · rename Hit _ _ _ _ _ _ => fH
    simp only [Int.sub_self, Int.sub_zero] at *
    (refine' hQ2 ?cd ?lb ?ln ?cc ?le ?rl ?cT ?cF ?cN ?cB ?cX ?cP ?cD; (case cF => first | with_reducible assumption | assumption); (case cN => first | with_reducible assumption | assumption); (case cT => first | with_reducible assumption | exact KtsTurn.refl | assumption); (case cB => first | with_reducible assumption | assumption); (case cX => first | with_reducible assumption | assumption); (case cP => first | with_reducible assumption | assumption); (case cD => first | with_reducible assumption | assumption); (case cd => exact dict_some); (case lb => first | rfl | omega); (case ln => first | rfl | omega); (case cc => (refine ⟨?_, ?_⟩ <;> omega)); (case le => first | exact Nat.le_refl _ | omega))
    case rl => exact Or.inr ⟨by omega, ⟨_, fH⟩, rfl⟩
  · rename NoHit _ _ _ _ _ => fH
    (refine' hQ2 ?cd ?lb ?ln ?cc ?le ?rl ?cT ?cF ?cN ?cB ?cX ?cP ?cD; (case cF => first | with_reducible assumption | assumption); (case cN => first | with_reducible assumption | assumption); (case cT => first | with_reducible assumption | exact KtsTurn.refl | assumption); (case cB => first | with_reducible assumption | assumption); (case cX => first | with_reducible assumption | assumption); (case cP => first | with_reducible assumption | assumption); (case cD => first | with_reducible assumption | assumption); (case cd => exact dict_some); (case lb => first | rfl | omega); (case ln => first | rfl | omega); (case cc => (refine ⟨?_, ?_⟩ <;> omega)); (case le => first | exact Nat.le_refl _ | omega))
    case rl => exact Or.inl ⟨Or.inr fH, rfl⟩
end
-- W12
section
open PySem PySem.W PySem.Calls PyProof.Rows PySem.Spec

theorem unstop12 {P : Prop} (h : P) : Stop P := by unfold Stop; exact h
theorem stopped12 {P : Prop} (h : Stop P) : P := by unfold Stop at h; exact h

theorem c_find3 (w : World) {cur : Str} {c lim lb bra ket p1 : Int} : MethC7 w 4 40 140 [.ref 491] cur c lim lb bra ket p1 (0 ≤ lb ∧ c ≤ cur.length ∧ cur.length ≤ 1000 ∧ 0 ≤ c ∧ lb ≤ c ∧ lim = cur.length)
    (fun Z => (∀ k t, Hit 5 kK3 cur lb c k → (lb ≤ c - (kK3 k).length ∧ 1 ≤ (kK3 k).length) → kR3 k = 1 → Z (.int 1 t) cur (c - (kK3 k).length) lim lb bra ket p1) ∧ (∀ k t, Hit 5 kK3 cur lb c k → (lb ≤ c - (kK3 k).length ∧ 1 ≤ (kK3 k).length) → kR3 k = 2 → Z (.int 2 t) cur (c - (kK3 k).length) lim lb bra ket p1) ∧ (∀ k t, Hit 5 kK3 cur lb c k → (lb ≤ c - (kK3 k).length ∧ 1 ≤ (kK3 k).length) → kR3 k = 3 → Z (.int 3 t) cur (c - (kK3 k).length) lim lb bra ket p1) ∧ (∀ t, NoHit 5 kK3 cur lb c → Z (.int 0 t) cur c lim lb bra ket p1)) :=
  (c_find w 491 5 _ _ _ _ (tab3 _) ok3).mono fun Z ⟨q1, q2, q3, q4⟩ => ⟨fun k t h1 h2 => by
    rcases res3 k h1.1 with h | h | h <;> rw [h]
    · exact q1 k t h1 h2 h
    · exact q2 k t h1 h2 h
    · exact q3 k t h1 h2 h, q4⟩
theorem c_find1 (w : World) {cur : Str} {c lim lb bra ket p1 : Int} : MethC7 w 4 40 140 [.ref 453] cur c lim lb bra ket p1 (0 ≤ lb ∧ c ≤ cur.length ∧ cur.length ≤ 1000 ∧ 0 ≤ c ∧ lb ≤ c ∧ lim = cur.length)
    (fun Z => (∀ k t, Hit 38 kK1 cur lb c k → (lb ≤ c - (kK1 k).length ∧ 1 ≤ (kK1 k).length) → kR1 k = 1 → Z (.int 1 t) cur (c - (kK1 k).length) lim lb bra ket p1) ∧ (∀ k t, Hit 38 kK1 cur lb c k → (lb ≤ c - (kK1 k).length ∧ 1 ≤ (kK1 k).length) → kR1 k = 2 → Z (.int 2 t) cur (c - (kK1 k).length) lim lb bra ket p1) ∧ (∀ k t, Hit 38 kK1 cur lb c k → (lb ≤ c - (kK1 k).length ∧ 1 ≤ (kK1 k).length) → kR1 k = 3 → Z (.int 3 t) cur (c - (kK1 k).length) lim lb bra ket p1) ∧ (∀ t, NoHit 38 kK1 cur lb c → Z (.int 0 t) cur c lim lb bra ket p1)) :=
  (c_find w 453 38 _ _ _ _ (tab1 _) ok1).mono fun Z ⟨q1, q2, q3, q4⟩ => ⟨fun k t h1 h2 => by
    rcases res1 k h1.1 with h | h | h <;> rw [h]
    · exact q1 k t h1 h2 h
    · exact q2 k t h1 h2 h
    · exact q3 k t h1 h2 h, q4⟩

noncomputable def OtherR (cur : Str) (p : Int) (cur' : Str) : Prop :=
  (((cur.length : Int) < p ∨ NoHit 5 kK3 cur p cur.length) ∧ cur' = cur) ∨
  (p ≤ cur.length ∧ ∃ k, Hit 5 kK3 cur p cur.length k ∧
    ((kR3 k = 1 ∧ cur' = cutS cur (cur.length - (kK3 k).length) cur.length (Str.ofString "")) ∨
     (kR3 k = 2 ∧ (((0 < (cur.length : Int) - (kK3 k).length ∧ memOf xs2 (Txt.item cur (cur.length - (kK3 k).length - 1)) = true) ∧ cur' = cutS cur (cur.length - (kK3 k).length) cur.length (Str.ofString "ös")) ∨
       (((cur.length : Int) - (kK3 k).length ≤ 0 ∨ memOf xs2 (Txt.item cur (cur.length - (kK3 k).length - 1)) = false) ∧ cur' = cur))) ∨
     (kR3 k = 3 ∧ cur' = cutS cur (cur.length - (kK3 k).length) cur.length (Str.ofString "full"))))
theorem short3 : ∀ k, k < 5 → 3 ≤ (kK3 k).length ∨ kR3 k = 1 := by decide +kernel
theorem r3of2 : ∀ k, k < 5 → kR3 k = 2 → (kK3 k).length = 3 := by decide +kernel
theorem r3of3 : ∀ k, k < 5 → kR3 k = 3 → (kK3 k).length = 5 := by decide +kernel
set_option hygiene false in
local macro_rules | `(tactic| walk_at "call ref") => `(tactic| (k_here; k_dflt (apply MethC7.use (c_find3 _); walk_at "g7"; walk_at "gC"); walk_at "o7"))
set_option hygiene false in
local macro_rules | `(tactic| walk_at "call ref") => `(tactic| (k_here; k_dflt ((first | apply Meth7.use (c_in_b _ 232 xs2 (set232 _)) | apply Meth7.use (c_slice_del2 _) | apply Meth7.use (c_slice_from2 _ _ _ ?hv)); walk_at "g7"; (try (case hv => first | omega | decide | decide +kernel)); walk_at "gM"); walk_at "o7"))

set_option maxHeartbeats 8000000 in
theorem m_r_other_suffix (w : World) : MethC w 10 100 267 [] (fun σ => σ.ok ∧ σ.lb = 0 ∧ σ.lim = σ.cur.length ∧ σ.c = σ.cur.length ∧ ∃ p, σ.p1 = some p ∧ 0 ≤ p)
    (fun σ r σ' => ∃ cur' c' b' k', σ' = ⟨cur', c', cur'.length, 0, b', k', σ.p1⟩ ∧ (0 ≤ c' ∧ c' ≤ (cur'.length : Int)) ∧ cur'.length ≤ σ.cur.length ∧ OtherR σ.cur (σ.p1.getD 0) cur') := by
  constructor
  intro mean mg mb A₀ A base h₀ env outer L m s x dx o σ rest Q E B F X N T XB TB DK hh hrest hxd hA hf hk hd hu hσ hp hQ
  have hxd2 := neN hxd
  obtain ⟨cur, c, lim, lb, bra, ket, p1⟩ := σ
  obtain ⟨sh, sg, sd, st, so⟩ := s
  dsimp only at F N hQ
  obtain ⟨⟨b1, b2, b3, b4⟩, b5, b6, b7, p1, b8, b9⟩ := hp
  dsimp only at b1 b2 b3 b4 b5 b6 b7 b8
  subst b8
  subst b5
  subst b6
  subst b7
  obtain ⟨zk, rfl⟩ := kap7 hσ
  (try dsimp only at N hQ)
  have hQ2 : ∀ {r : Value} {cur' : Str} {c' l' b' k' lb' : Int} {o' : Obj} {h' : Heap} {tk' : Tok} {h₀' : Heap}, DictIs w.params ⟨cur', c', l', lb', b', k', some p1⟩ o' → lb' = 0 → l' = cur'.length → (0 ≤ c' ∧ c' ≤ cur'.length) → cur'.length ≤ cur.length → OtherR cur p1 cur' → KtsTurn (frs outer) h₀ h₀' → Fr h₀' L h' m → News h₀' L h' ((x, instObj 494 dx) :: (dx, o') :: rest) → Below A₀ base outer h₀' → (KF w.params).In h₀' → Top vq (looseW vq vloose) mean mg mb h₀' → KtsDicts (frs outer) h₀' → Q r ⟨h', sg, sd, tk', so⟩ := by
    intro r cur' c' l' b' k' lb' o' h' tk' h₀' a e0 e1 e2 e3 e4
    subst e1
    subst e0
    exact hQ _ _ _ _ _ _ a ⟨cur', c', b', k', rfl, e2, e3, e4⟩
  dsimp only [Option.getD_some] at hQ
  clear hQ
  walk_at "m_enterT"
  walk_at "m_steps"
  all_goals (try dsimp only)
  · (refine' hQ2 ?cd ?lb ?ln ?cc ?le ?rl ?cT ?cF ?cN ?cB ?cX ?cP ?cD; (case cF => first | with_reducible assumption | assumption); (case cN => first | with_reducible assumption | assumption); (case cT => first | with_reducible assumption | exact KtsTurn.refl | assumption); (case cB => first | with_reducible assumption | assumption); (case cX => first | with_reducible assumption | assumption); (case cP => first | with_reducible assumption | assumption); (case cD => first | with_reducible assumption | assumption); (case cd => exact dict_some); (case lb => first | rfl | omega); (case ln => first | rfl | omega); (case cc => (refine ⟨?_, ?_⟩ <;> omega)); (case le => first | exact Nat.le_refl _ | omega))
    case rl => exact Or.inl ⟨Or.inl (by omega), rfl⟩
  · rename Hit _ _ _ _ _ _ => fH
    (refine' hQ2 ?cd ?lb ?ln ?cc ?le ?rl ?cT ?cF ?cN ?cB ?cX ?cP ?cD; (case cF => first | with_reducible assumption | assumption); (case cN => first | with_reducible assumption | assumption); (case cT => first | with_reducible assumption | exact KtsTurn.refl | assumption); (case cB => first | with_reducible assumption | assumption); (case cX => first | with_reducible assumption | assumption); (case cP => first | with_reducible assumption | assumption); (case cD => first | with_reducible assumption | assumption); (case cd => exact dict_some); (case lb => first | rfl | omega); (case ln => first | rfl | omega); (case cc => (refine ⟨?_, ?_⟩ <;> omega)); (case le => first | exact Nat.le_refl _ | omega))
    case rl => exact Or.inr ⟨by omega, _, fH, Or.inl ⟨by assumption, rfl⟩⟩
  · rename Hit _ _ _ _ _ _ => fH
    have f5 := r3of2 _ fH.1 (by first | with_reducible assumption | assumption)
    simp only [os_len] at *
    (refine' hQ2 ?cd ?lb ?ln ?cc ?le ?rl ?cT ?cF ?cN ?cB ?cX ?cP ?cD; (case cF => first | with_reducible assumption | assumption); (case cN => first | with_reducible assumption | assumption); (case cT => first | with_reducible assumption | exact KtsTurn.refl | assumption); (case cB => first | with_reducible assumption | assumption); (case cX => first | with_reducible assumption | assumption); (case cP => first | with_reducible assumption | assumption); (case cD => first | with_reducible assumption | assumption); (case cd => exact dict_some); (case lb => first | rfl | omega); (case ln => first | rfl | omega); (case cc => (refine ⟨?_, ?_⟩ <;> omega)); (case le => first | exact Nat.le_refl _ | omega))
    case rl => exact Or.inr ⟨by omega, _, fH, Or.inr (Or.inl ⟨by assumption, Or.inl ⟨by assumption, rfl⟩⟩)⟩
  · rename Hit _ _ _ _ _ _ => fH
    (refine' hQ2 ?cd ?lb ?ln ?cc ?le ?rl ?cT ?cF ?cN ?cB ?cX ?cP ?cD; (case cF => first | with_reducible assumption | assumption); (case cN => first | with_reducible assumption | assumption); (case cT => first | with_reducible assumption | exact KtsTurn.refl | assumption); (case cB => first | with_reducible assumption | assumption); (case cX => first | with_reducible assumption | assumption); (case cP => first | with_reducible assumption | assumption); (case cD => first | with_reducible assumption | assumption); (case cd => exact dict_some); (case lb => first | rfl | omega); (case ln => first | rfl | omega); (case cc => (refine ⟨?_, ?_⟩ <;> omega)); (case le => first | exact Nat.le_refl _ | omega))
    case rl => exact Or.inr ⟨by omega, _, fH, Or.inr (Or.inl ⟨by assumption, Or.inr ⟨by assumption, rfl⟩⟩)⟩
  · rename Hit _ _ _ _ _ _ => fH
    have f5 := r3of3 _ fH.1 (by first | with_reducible assumption | assumption)
    simp only [full_len] at *
    (refine' hQ2 ?cd ?lb ?ln ?cc ?le ?rl ?cT ?cF ?cN ?cB ?cX ?cP ?cD; (case cF => first | with_reducible assumption | assumption); (case cN => first | with_reducible assumption | assumption); (case cT => first | with_reducible assumption | exact KtsTurn.refl | assumption); (case cB => first | with_reducible assumption | assumption); (case cX => first | with_reducible assumption | assumption); (case cP => first | with_reducible assumption | assumption); (case cD => first | with_reducible assumption | assumption); (case cd => exact dict_some); (case lb => first | rfl | omega); (case ln => first | rfl | omega); (case cc => (refine ⟨?_, ?_⟩ <;> omega)); (case le => first | exact Nat.le_refl _ | omega))
    case rl => exact Or.inr ⟨by omega, _, fH, Or.inr (Or.inr ⟨by assumption, rfl⟩)⟩
  · rename NoHit _ _ _ _ _ => fH
    (refine' hQ2 ?cd ?lb ?ln ?cc ?le ?rl ?cT ?cF ?cN ?cB ?cX ?cP ?cD; (case cF => first | with_reducible assumption | assumption); (case cN => first | with_reducible assumption | assumption); (case cT => first | with_reducible assumption | exact KtsTurn.refl | assumption); (case cB => first | with_reducible assumption | assumption); (case cX => first | with_reducible assumption | assumption); (case cP => first | with_reducible assumption | assumption); (case cD => first | with_reducible assumption | assumption); (case cd => exact dict_some); (case lb => first | rfl | omega); (case ln => first | rfl | omega); (case cc => (refine ⟨?_, ?_⟩ <;> omega)); (case le => first | exact Nat.le_refl _ | omega))
    case rl => exact Or.inl ⟨Or.inr fH, rfl⟩
end
-- W13
section
open PySem PySem.W PySem.Calls PyProof.Rows PySem.Spec

theorem unstop13 {P : Prop} (h : P) : Stop P := by unfold Stop; exact h
theorem stopped13 {P : Prop} (h : Stop P) : P := by unfold Stop at h; exact h
local macro_rules | `(tactic| k_in) => `(tactic| first | exact Frag.In.keeps (by k_asm) (Fr.keep (by k_asm)) | assumption)

theorem zz (a b : Int) : a - (a - b) = b := by omega
theorem et_short {cur : Str} {lb c : Int} (h0 : 0 ≤ lb) (h1 : lb ≤ c) (h2 : c ≤ cur.length) (h : Txt.endswith (Txt.slice cur (some lb) (some c)) (Str.ofString "et") = true) : lb ≤ c - 2 := by
  have hs : cur.length = cur.cps.size := rfl
  have e1 := beq_iff_eq.mp (slice_closes (x := cur) (i := lb) (j := c) ⟨h0, h1, by rw [Array.length_toList]; omega⟩)
  unfold Txt.endswith at h
  simp only [Bool.and_eq_true, decide_eq_true_eq] at h
  have h3 := h.1
  rw [et_len, e1] at h3
  simp only [Str.length, List.size_toArray, List.length_take, List.length_drop, Array.length_toList] at h3
  omega
theorem c_eq (w : World) (t : Tok) {cur : Str} {c lim lb bra ket p1 : Int} : Meth7 w 2 20 126 [.str (Str.ofString "et") t] cur c lim lb bra ket p1 (0 ≤ lb ∧ c ≤ cur.length ∧ cur.length ≤ 1000 ∧ 0 ≤ c ∧ lb ≤ c)
    (fun K => ((Txt.endswith (Txt.slice cur (some lb) (some c)) (Str.ofString "et") = true ∧ lb ≤ c - 2) → K (.bool true) cur (c - 2) lim lb bra ket p1) ∧ (Txt.endswith (Txt.slice cur (some lb) (some c)) (Str.ofString "et") = false → K (.bool false) cur c lim lb bra ket p1)) := by
  refine Meth7.mk_ (m_eq_s_b w t) (fun ⟨a, b, d, e, f⟩ => ⟨⟨a, b, d, e⟩, rfl⟩) ?_
  rintro ⟨b1, b2, b3, b4, b5⟩ K ⟨q1, q2⟩ r σ' ⟨h1, h2⟩
  dsimp only at h1 h2
  cases he : Txt.endswith (Txt.slice cur (some lb) (some c)) (Str.ofString "et") with
  | true => rw [he] at h1 h2; subst h1; subst h2; exact ⟨_, _, _, _, _, _, _, rfl, q1 ⟨he, et_short b1 b5 b2 he⟩⟩
  | false => rw [he] at h1 h2; subst h1; subst h2; exact ⟨_, _, _, _, _, _, _, rfl, q2 he⟩

/-- 'et' ahead of an 's' may go with it -/
noncomputable def EtS (cur : Str) (b : Int) : Prop := Txt.endswith (Txt.slice cur (some 0) (some b)) (Str.ofString "et") = true ∧ EtOk cur 0 (b - 2)
noncomputable def MainR (cur : Str) (p : Int) (cur' : Str) : Prop :=
  (((cur.length : Int) < p ∨ NoHit 38 kK1 cur p cur.length) ∧ cur' = cur) ∨
  (p ≤ cur.length ∧ ∃ k, Hit 38 kK1 cur p cur.length k ∧
    ((kR1 k = 1 ∧ cur' = cutS cur (cur.length - (kK1 k).length) cur.length (Str.ofString "")) ∨
     (kR1 k = 2 ∧ ((EtS cur (cur.length - (kK1 k).length) ∧ cur' = cutS cur (cur.length - (kK1 k).length - 2) cur.length (Str.ofString "")) ∨
       (¬ EtS cur (cur.length - (kK1 k).length) ∧ (((0 < (cur.length : Int) - (kK1 k).length ∧ memOf xs1 (Txt.item cur (cur.length - (kK1 k).length - 1)) = true) ∧ cur' = cutS cur (cur.length - (kK1 k).length) cur.length (Str.ofString "")) ∨
         (((cur.length : Int) - (kK1 k).length ≤ 0 ∨ memOf xs1 (Txt.item cur (cur.length - (kK1 k).length - 1)) = false) ∧ cur' = cur))))) ∨
     (kR1 k = 3 ∧ ((EtOk cur 0 (cur.length - (kK1 k).length) ∧ cur' = cutS cur (cur.length - (kK1 k).length) cur.length (Str.ofString "")) ∨ (¬ EtOk cur 0 (cur.length - (kK1 k).length) ∧ cur' = cur)))))

theorem while_once {w : World} {A : Around} {E : Value → Shared → Prop} {s : Shared} {env : Env} {test : PySem.Expr} {body : List Stmt} {pos : Pos} {Q : Flow → Shared → Prop}
    (turn : wpAny (model pw w) A (isTrue test env (eval test env)) (fun b s₂ => if b = true then wpAny (model pw w) A (execs body env) (fun f s₃ => match f with
        | .next | .cont => Stop (∃ m, m < 0 ∧ s₃ = s)
        | .brk => Q .next s₃
        | .ret v => Q (.ret v) s₃) (fun _ _ => False) s₂ else Q .next s₂) (fun _ _ => False) s) :
    wpAny (model pw w) A (exec (.While test body [] pos) env) Q E s :=
  while_rule (fun _ s' => s' = s) 0 rfl fun n s' h => by
    subst h
    refine wpAny_mono turn (fun b s₂ h => ?_) (fun _ _ h => h)
    by_cases hb : b = true
    · rw [if_pos hb] at h ⊢
      refine wpAny_mono h (fun f s₃ h => ?_) (fun _ _ h => h)
      cases f with
      | next => exact absurd (stopped h) (by rintro ⟨m, hm, _⟩; omega)
      | cont => exact absurd (stopped h) (by rintro ⟨m, hm, _⟩; omega)
      | brk => exact h
      | ret v => exact h
    · rw [if_neg hb] at h ⊢
      exact h
local macro_rules | `(tactic| walk_at "exec While Constant cons nil") => `(tactic| (k_here; refine while_once ?_))
set_option hygiene false in
local macro_rules | `(tactic| walk_at "call ref") => `(tactic| (k_here; k_dflt ((first | apply MethC7.use (c_find1 _) | apply MethC7.use (c_et _)); walk_at "g7"; walk_at "gC"); walk_at "o7"))
set_option hygiene false in
local macro_rules | `(tactic| walk_at "call ref") => `(tactic| (k_here; k_dflt ((first | apply Meth7.use (c_in_b _ 231 xs1 (set231 _)) | apply Meth7.use (c_eq _ _) | apply Meth7.use (c_slice_del2 _)); walk_at "g7"; walk_at "gM"); walk_at "o7"))

set_option maxHeartbeats 8000000 in
theorem m_r_main_suffix (w : World) : MethC w 12 140 253 [] (fun σ => σ.ok ∧ σ.lb = 0 ∧ σ.lim = σ.cur.length ∧ σ.c = σ.cur.length ∧ ∃ p, σ.p1 = some p ∧ 0 ≤ p)
    (fun σ r σ' => ∃ cur' c' b' k', σ' = ⟨cur', c', cur'.length, 0, b', k', σ.p1⟩ ∧ (0 ≤ c' ∧ c' ≤ (cur'.length : Int)) ∧ cur'.length ≤ σ.cur.length ∧ MainR σ.cur (σ.p1.getD 0) cur') := by
  constructor
  intro mean mg mb A₀ A base h₀ env outer L m s x dx o σ rest Q E B F X N T XB TB DK hh hrest hxd hA hf hk hd hu hσ hp hQ
  have hxd2 := neN hxd
  obtain ⟨cur, c, lim, lb, bra, ket, p1⟩ := σ
  obtain ⟨sh, sg, sd, st, so⟩ := s
  dsimp only at F N hQ
  obtain ⟨⟨b1, b2, b3, b4⟩, b5, b6, b7, p1, b8, b9⟩ := hp
  dsimp only at b1 b2 b3 b4 b5 b6 b7 b8
  subst b8
  subst b5
  subst b6
  subst b7
  obtain ⟨zk, rfl⟩ := kap7 hσ
  (try dsimp only at N hQ)
  have hQ2 : ∀ {r : Value} {cur' : Str} {c' l' b' k' lb' : Int} {o' : Obj} {h' : Heap} {tk' : Tok} {h₀' : Heap}, DictIs w.params ⟨cur', c', l', lb', b', k', some p1⟩ o' → lb' = 0 → l' = cur'.length → (0 ≤ c' ∧ c' ≤ cur'.length) → cur'.length ≤ cur.length → MainR cur p1 cur' → KtsTurn (frs outer) h₀ h₀' → Fr h₀' L h' m → News h₀' L h' ((x, instObj 494 dx) :: (dx, o') :: rest) → Below A₀ base outer h₀' → (KF w.params).In h₀' → Top vq (looseW vq vloose) mean mg mb h₀' → KtsDicts (frs outer) h₀' → Q r ⟨h', sg, sd, tk', so⟩ := by
    intro r cur' c' l' b' k' lb' o' h' tk' h₀' a e0 e1 e2 e3 e4
    subst e1
    subst e0
    exact hQ _ _ _ _ _ _ a ⟨cur', c', b', k', rfl, e2, e3, e4⟩
  dsimp only [Option.getD_some] at hQ
  clear hQ
  walk_at "m_enterT"
  walk_at "m_steps"
  all_goals (try dsimp only)
  · (refine' hQ2 ?cd ?lb ?ln ?cc ?le ?rl ?cT ?cF ?cN ?cB ?cX ?cP ?cD; (case cF => first | with_reducible assumption | assumption); (case cN => first | with_reducible assumption | assumption); (case cT => first | with_reducible assumption | exact KtsTurn.refl | assumption); (case cB => first | with_reducible assumption | assumption); (case cX => first | with_reducible assumption | assumption); (case cP => first | with_reducible assumption | assumption); (case cD => first | with_reducible assumption | assumption); (case cd => exact dict_some); (case lb => first | rfl | omega); (case ln => first | rfl | omega); (case cc => (refine ⟨?_, ?_⟩ <;> omega)); (case le => first | exact Nat.le_refl _ | omega))
    case rl => exact Or.inl ⟨Or.inl (by omega), rfl⟩
  · rename Hit _ _ _ _ _ _ => fH
    (refine' hQ2 ?cd ?lb ?ln ?cc ?le ?rl ?cT ?cF ?cN ?cB ?cX ?cP ?cD; (case cF => first | with_reducible assumption | assumption); (case cN => first | with_reducible assumption | assumption); (case cT => first | with_reducible assumption | exact KtsTurn.refl | assumption); (case cB => first | with_reducible assumption | assumption); (case cX => first | with_reducible assumption | assumption); (case cP => first | with_reducible assumption | assumption); (case cD => first | with_reducible assumption | assumption); (case cd => exact dict_some); (case lb => first | rfl | omega); (case ln => first | rfl | omega); (case cc => (refine ⟨?_, ?_⟩ <;> omega)); (case le => first | exact Nat.le_refl _ | omega))
    case rl => exact Or.inr ⟨by omega, _, fH, Or.inl ⟨by assumption, rfl⟩⟩
  · rename Hit _ _ _ _ _ _ => fH
    rename (Txt.endswith _ _ = true ∧ _) => fE
    rename EtOk _ _ _ => fO
    (refine' hQ2 ?cd ?lb ?ln ?cc ?le ?rl ?cT ?cF ?cN ?cB ?cX ?cP ?cD; (case cF => first | with_reducible assumption | assumption); (case cN => first | with_reducible assumption | assumption); (case cT => first | with_reducible assumption | exact KtsTurn.refl | assumption); (case cB => first | with_reducible assumption | assumption); (case cX => first | with_reducible assumption | assumption); (case cP => first | with_reducible assumption | assumption); (case cD => first | with_reducible assumption | assumption); (case cd => exact dict_some); (case lb => first | rfl | omega); (case ln => first | rfl | omega); (case cc => (refine ⟨?_, ?_⟩ <;> omega)); (case le => first | exact Nat.le_refl _ | omega))
    case rl => exact Or.inr ⟨by omega, _, fH, Or.inr (Or.inl ⟨by assumption, Or.inl ⟨⟨fE.1, fO⟩, rfl⟩⟩)⟩
  · rename Hit _ _ _ _ _ _ => fH
    rename (¬ EtOk _ _ _) => fO
    rename (_ ∧ memOf xs1 _ = true) => fB
    simp only [zz] at fB
    (refine' hQ2 ?cd ?lb ?ln ?cc ?le ?rl ?cT ?cF ?cN ?cB ?cX ?cP ?cD; (case cF => first | with_reducible assumption | assumption); (case cN => first | with_reducible assumption | assumption); (case cT => first | with_reducible assumption | exact KtsTurn.refl | assumption); (case cB => first | with_reducible assumption | assumption); (case cX => first | with_reducible assumption | assumption); (case cP => first | with_reducible assumption | assumption); (case cD => first | with_reducible assumption | assumption); (case cd => exact dict_some); (case lb => first | rfl | omega); (case ln => first | rfl | omega); (case cc => (refine ⟨?_, ?_⟩ <;> omega)); (case le => first | exact Nat.le_refl _ | omega))
    case rl => exact Or.inr ⟨by omega, _, fH, Or.inr (Or.inl ⟨by assumption, Or.inr ⟨fun h => fO h.2, Or.inl ⟨fB, rfl⟩⟩⟩)⟩
  · rename Hit _ _ _ _ _ _ => fH
    rename (¬ EtOk _ _ _) => fO
    rename (_ ∨ memOf xs1 _ = false) => fB
    simp only [zz] at fB
    (refine' hQ2 ?cd ?lb ?ln ?cc ?le ?rl ?cT ?cF ?cN ?cB ?cX ?cP ?cD; (case cF => first | with_reducible assumption | assumption); (case cN => first | with_reducible assumption | assumption); (case cT => first | with_reducible assumption | exact KtsTurn.refl | assumption); (case cB => first | with_reducible assumption | assumption); (case cX => first | with_reducible assumption | assumption); (case cP => first | with_reducible assumption | assumption); (case cD => first | with_reducible assumption | assumption); (case cd => exact dict_some); (case lb => first | rfl | omega); (case ln => first | rfl | omega); (case cc => (refine ⟨?_, ?_⟩ <;> omega)); (case le => first | exact Nat.le_refl _ | omega))
    case rl => exact Or.inr ⟨by omega, _, fH, Or.inr (Or.inl ⟨by assumption, Or.inr ⟨fun h => fO h.2, Or.inr ⟨fB, rfl⟩⟩⟩)⟩
  · rename Hit _ _ _ _ _ _ => fH
    rename (Txt.endswith _ _ = false) => fE
    rename (_ ∧ memOf xs1 _ = true) => fB
    simp only [zz] at fB
    (refine' hQ2 ?cd ?lb ?ln ?cc ?le ?rl ?cT ?cF ?cN ?cB ?cX ?cP ?cD; (case cF => first | with_reducible assumption | assumption); (case cN => first | with_reducible assumption | assumption); (case cT => first | with_reducible assumption | exact KtsTurn.refl | assumption); (case cB => first | with_reducible assumption | assumption); (case cX => first | with_reducible assumption | assumption); (case cP => first | with_reducible assumption | assumption); (case cD => first | with_reducible assumption | assumption); (case cd => exact dict_some); (case lb => first | rfl | omega); (case ln => first | rfl | omega); (case cc => (refine ⟨?_, ?_⟩ <;> omega)); (case le => first | exact Nat.le_refl _ | omega))
    case rl => exact Or.inr ⟨by omega, _, fH, Or.inr (Or.inl ⟨by assumption, Or.inr ⟨fun h => (by rw [h.1] at fE; cases fE), Or.inl ⟨fB, rfl⟩⟩⟩)⟩
  · rename Hit _ _ _ _ _ _ => fH
    rename (Txt.endswith _ _ = false) => fE
    rename (_ ∨ memOf xs1 _ = false) => fB
    simp only [zz] at fB
    (refine' hQ2 ?cd ?lb ?ln ?cc ?le ?rl ?cT ?cF ?cN ?cB ?cX ?cP ?cD; (case cF => first | with_reducible assumption | assumption); (case cN => first | with_reducible assumption | assumption); (case cT => first | with_reducible assumption | exact KtsTurn.refl | assumption); (case cB => first | with_reducible assumption | assumption); (case cX => first | with_reducible assumption | assumption); (case cP => first | with_reducible assumption | assumption); (case cD => first | with_reducible assumption | assumption); (case cd => exact dict_some); (case lb => first | rfl | omega); (case ln => first | rfl | omega); (case cc => (refine ⟨?_, ?_⟩ <;> omega)); (case le => first | exact Nat.le_refl _ | omega))
    case rl => exact Or.inr ⟨by omega, _, fH, Or.inr (Or.inl ⟨by assumption, Or.inr ⟨fun h => (by rw [h.1] at fE; cases fE), Or.inr ⟨fB, rfl⟩⟩⟩)⟩
  · rename Hit _ _ _ _ _ _ => fH
    (refine' hQ2 ?cd ?lb ?ln ?cc ?le ?rl ?cT ?cF ?cN ?cB ?cX ?cP ?cD; (case cF => first | with_reducible assumption | assumption); (case cN => first | with_reducible assumption | assumption); (case cT => first | with_reducible assumption | exact KtsTurn.refl | assumption); (case cB => first | with_reducible assumption | assumption); (case cX => first | with_reducible assumption | assumption); (case cP => first | with_reducible assumption | assumption); (case cD => first | with_reducible assumption | assumption); (case cd => exact dict_some); (case lb => first | rfl | omega); (case ln => first | rfl | omega); (case cc => (refine ⟨?_, ?_⟩ <;> omega)); (case le => first | exact Nat.le_refl _ | omega))
    case rl => exact Or.inr ⟨by omega, _, fH, Or.inr (Or.inr ⟨by assumption, Or.inl ⟨by assumption, rfl⟩⟩)⟩
  · rename Hit _ _ _ _ _ _ => fH
    (refine' hQ2 ?cd ?lb ?ln ?cc ?le ?rl ?cT ?cF ?cN ?cB ?cX ?cP ?cD; (case cF => first | with_reducible assumption | assumption); (case cN => first | with_reducible assumption | assumption); (case cT => first | with_reducible assumption | exact KtsTurn.refl | assumption); (case cB => first | with_reducible assumption | assumption); (case cX => first | with_reducible assumption | assumption); (case cP => first | with_reducible assumption | assumption); (case cD => first | with_reducible assumption | assumption); (case cd => exact dict_some); (case lb => first | rfl | omega); (case ln => first | rfl | omega); (case cc => (refine ⟨?_, ?_⟩ <;> omega)); (case le => first | exact Nat.le_refl _ | omega))
    case rl => exact Or.inr ⟨by omega, _, fH, Or.inr (Or.inr ⟨by assumption, Or.inr ⟨by assumption, rfl⟩⟩)⟩
  · rename NoHit _ _ _ _ _ => fH
    (refine' hQ2 ?cd ?lb ?ln ?cc ?le ?rl ?cT ?cF ?cN ?cB ?cX ?cP ?cD; (case cF => first | with_reducible assumption | assumption); (case cN => first | with_reducible assumption | assumption); (case cT => first | with_reducible assumption | exact KtsTurn.refl | assumption); (case cB => first | with_reducible assumption | assumption); (case cX => first | with_reducible assumption | assumption); (case cP => first | with_reducible assumption | assumption); (case cD => first | with_reducible assumption | assumption); (case cd => exact dict_some); (case lb => first | rfl | omega); (case ln => first | rfl | omega); (case cc => (refine ⟨?_, ?_⟩ <;> omega)); (case le => first | exact Nat.le_refl _ | omega))
    case rl => exact Or.inl ⟨Or.inr fH, rfl⟩
end
-- W14
section
open PySem PySem.W PySem.Calls PyProof.Rows PySem.Spec
local macro_rules | `(tactic| walk_at "pad0") => `(tactic| skip)

theorem unstop14 {P : Prop} (h : P) : Stop P := by unfold Stop; exact h
theorem stopped14 {P : Prop} (h : Stop P) : P := by unfold Stop at h; exact h
local macro_rules | `(tactic| k_in) => `(tactic| first | exact Frag.In.keeps (by k_asm) (Fr.keep (by k_asm)) | assumption)

noncomputable def StemR (cur cur' : Str) : Prop := ∃ p c1 c2, Region cur p ∧ MainR cur p c1 ∧ PairR c1 p c2 ∧ OtherR c2 p cur'
theorem regNN {cur : Str} {p : Int} (h : Region cur p) : 0 ≤ p := by
  rcases h with ⟨_, h⟩ | ⟨_, _, h⟩ | ⟨_, j, _, _, _, _, h⟩
  · omega
  · omega
  · rcases h with ⟨_, h⟩ | ⟨k, h1, h2, _, _, h⟩
    · omega
    · rw [h]; split <;> omega
theorem c_mark (w : World) {cur : Str} {c lim lb bra ket : Int} {p1 : Option Int} : MethCT w 6 60 239 [] cur c lim lb bra ket p1 (0 ≤ lb ∧ c ≤ cur.length ∧ cur.length ≤ 1000 ∧ 0 ≤ c ∧ c = 0 ∧ lim = cur.length)
    (fun K => ∀ r p c', Region cur p → 0 ≤ p → K r cur c' lim lb bra ket p) := by
  refine ⟨_, _, m_r_mark_regions w, fun ⟨a, b, d, e, f, g⟩ => ⟨⟨a, b, d, e⟩, f, g⟩, ?_⟩
  rintro K q r σ' ⟨p, c', rfl, h⟩
  exact ⟨_, _, _, _, _, _, _, rfl, q r p c' h (regNN h)⟩
theorem c_main (w : World) {cur : Str} {c lim lb bra ket p1 : Int} : MethC7 w 12 140 253 [] cur c lim lb bra ket p1 (0 ≤ lb ∧ c ≤ cur.length ∧ cur.length ≤ 1000 ∧ 0 ≤ c ∧ lb = 0 ∧ lim = cur.length ∧ c = cur.length ∧ 0 ≤ p1)
    (fun K => ∀ r cur' c' b' k', (0 ≤ c' ∧ c' ≤ (cur'.length : Int)) → cur'.length ≤ cur.length → MainR cur p1 cur' → K r cur' c' cur'.length 0 b' k' p1) := by
  refine ⟨_, _, m_r_main_suffix w, fun ⟨a, b, d, e, f, g, h, i⟩ => ⟨⟨a, b, d, e⟩, f, g, h, p1, rfl, i⟩, ?_⟩
  rintro K q r σ' ⟨cur', c', b', k', rfl, h1, h2, h3⟩
  exact ⟨_, _, _, _, _, _, _, rfl, q r cur' c' b' k' h1 h2 h3⟩
theorem c_pair (w : World) {cur : Str} {c lim lb bra ket p1 : Int} : MethC7 w 10 100 260 [] cur c lim lb bra ket p1 (0 ≤ lb ∧ c ≤ cur.length ∧ cur.length ≤ 1000 ∧ 0 ≤ c ∧ lb = 0 ∧ lim = cur.length ∧ c = cur.length ∧ 0 ≤ p1)
    (fun K => ∀ r cur' c' b' k', (0 ≤ c' ∧ c' ≤ (cur'.length : Int)) → cur'.length ≤ cur.length → PairR cur p1 cur' → K r cur' c' cur'.length 0 b' k' p1) := by
  refine ⟨_, _, m_r_consonant_pair w, fun ⟨a, b, d, e, f, g, h, i⟩ => ⟨⟨a, b, d, e⟩, f, g, h, p1, rfl, i⟩, ?_⟩
  rintro K q r σ' ⟨cur', c', b', k', rfl, h1, h2, h3⟩
  exact ⟨_, _, _, _, _, _, _, rfl, q r cur' c' b' k' h1 h2 h3⟩
theorem c_other (w : World) {cur : Str} {c lim lb bra ket p1 : Int} : MethC7 w 10 100 267 [] cur c lim lb bra ket p1 (0 ≤ lb ∧ c ≤ cur.length ∧ cur.length ≤ 1000 ∧ 0 ≤ c ∧ lb = 0 ∧ lim = cur.length ∧ c = cur.length ∧ 0 ≤ p1)
    (fun K => ∀ r cur' c' b' k', (0 ≤ c' ∧ c' ≤ (cur'.length : Int)) → cur'.length ≤ cur.length → OtherR cur p1 cur' → K r cur' c' cur'.length 0 b' k' p1) := by
  refine ⟨_, _, m_r_other_suffix w, fun ⟨a, b, d, e, f, g, h, i⟩ => ⟨⟨a, b, d, e⟩, f, g, h, p1, rfl, i⟩, ?_⟩
  rintro K q r σ' ⟨cur', c', b', k', rfl, h1, h2, h3⟩
  exact ⟨_, _, _, _, _, _, _, rfl, q r cur' c' b' k' h1 h2 h3⟩
set_option hygiene false in
local macro_rules | `(tactic| k_get) => `(tactic| first | exact get6_0 | exact get6_1 | exact get6_2 | exact get6_3 | exact get6_4 | exact get6_5 | (refine' DictT.none (by with_reducible assumption) ?h0 ?h1; (case h0 => k_get); (case h1 => (intro _ _ _; k_get))))
set_option hygiene false in
local macro_rules | `(tactic| walk_at "hT") => `(tactic| (case hσ => exact DictT.is (by with_reducible assumption)))
set_option hygiene false in
local macro_rules | `(tactic| walk_at "call ref") => `(tactic| (k_here; k_dflt ((first | apply MethC7.use (c_main _) | apply MethC7.use (c_pair _) | apply MethC7.use (c_other _)); walk_at "g7"; walk_at "gC"); walk_at "o7"))
set_option hygiene false in
local macro_rules | `(tactic| walk_at "call ref") => `(tactic| (k_here; k_dflt (apply MethCT.use (c_mark _); walk_at "g7"; walk_at "hT"; walk_at "gC"); walk_at "o7"))

set_option maxHeartbeats 8000000 in
theorem m_stem (w : World) : MethC w 14 160 274 [] (fun σ => σ.ok ∧ σ.lb = 0 ∧ σ.c = 0 ∧ σ.lim = σ.cur.length)
    (fun σ r σ' => StemR σ.cur σ'.cur ∧ σ'.cur.length ≤ σ.cur.length ∧ σ'.p1.isSome = true) := by
  constructor
  intro mean mg mb A₀ A base h₀ env outer L m s x dx o σ rest Q E B F X N T XB TB DK hh hrest hxd hA hf hk hd hu hσ hp hQ
  have hxd2 := neN hxd
  obtain ⟨cur, c, lim, lb, bra, ket, p1⟩ := σ
  obtain ⟨sh, sg, sd, st, so⟩ := s
  dsimp only at F N hQ
  obtain ⟨⟨b1, b2, b3, b4⟩, b5, b6, b7⟩ := hp
  dsimp only at b1 b2 b3 b4 b5 b6 b7
  subst b5
  subst b6
  subst b7
  have hQ2 : ∀ {r : Value} {cur' : Str} {c' l' lb' b' k' p' : Int} {o' : Obj} {h' : Heap} {tk' : Tok} {h₀' : Heap}, DictIs w.params ⟨cur', c', l', lb', b', k', some p'⟩ o' → cur'.length ≤ cur.length → StemR cur cur' → KtsTurn (frs outer) h₀ h₀' → Fr h₀' L h' m → News h₀' L h' ((x, instObj 494 dx) :: (dx, o') :: rest) → Below A₀ base outer h₀' → (KF w.params).In h₀' → Top vq (looseW vq vloose) mean mg mb h₀' → KtsDicts (frs outer) h₀' → Q r ⟨h', sg, sd, tk', so⟩ := fun a b c d e f g i j k => hQ _ _ _ _ _ _ a ⟨c, b, rfl⟩ d e f g i j k
  clear hQ
  obtain ⟨zk, tl, nn, rfl, hT⟩ := dict_tail hσ
  clear hσ
  walk_at "m_enterT"
  walk_at "m_steps"
  all_goals (try dsimp only)
  rename Region _ _ => fR
  rename MainR _ _ _ => fM
  rename PairR _ _ _ => fP
  rename OtherR _ _ _ => fO
  (refine' hQ2 ?cd ?le ⟨_, _, _, fR, fM, fP, fO⟩ ?cT ?cF ?cN ?cB ?cX ?cP ?cD; (case cF => first | with_reducible assumption | assumption); (case cN => first | with_reducible assumption | assumption); (case cT => first | with_reducible assumption | exact KtsTurn.refl | assumption); (case cB => first | with_reducible assumption | assumption); (case cX => first | with_reducible assumption | assumption); (case cP => first | with_reducible assumption | assumption); (case cD => first | with_reducible assumption | assumption); (case cd => exact dict_some); (case le => omega))

theorem c_stem (w : World) {cur : Str} {c lim lb bra ket : Int} {p1 : Option Int} : MethCT w 14 160 274 [] cur c lim lb bra ket p1 (0 ≤ lb ∧ c ≤ cur.length ∧ cur.length ≤ 1000 ∧ 0 ≤ c ∧ lb = 0 ∧ c = 0 ∧ lim = cur.length)
    (fun K => ∀ r cur' c' l' lb' b' k' p', StemR cur cur' → cur'.length ≤ cur.length → K r cur' c' l' lb' b' k' p') := by
  refine ⟨_, _, m_stem w, fun ⟨a, b, d, e, f, g, h⟩ => ⟨⟨a, b, d, e⟩, f, g, h⟩, ?_⟩
  rintro K q r ⟨cur', c', l', lb', b', k', p'⟩ ⟨h1, h2, h3⟩
  obtain ⟨p', rfl⟩ := Option.isSome_iff_exists.mp h3
  exact ⟨_, _, _, _, _, _, _, rfl, q r cur' c' l' lb' b' k' p' h1 h2⟩
end
-- W15
section
open PySem PySem.W PySem.Calls PyProof.Rows PySem.Spec
local macro_rules | `(tactic| walk_at "pad0") => `(tactic| skip)

theorem unstop15 {P : Prop} (h : P) : Stop P := by unfold Stop; exact h
theorem stopped15 {P : Prop} (h : Stop P) : P := by unfold Stop at h; exact h
local macro_rules | `(tactic| k_in) => `(tactic| first | exact Frag.In.keeps (by k_asm) (Fr.keep (by k_asm)) | assumption)
theorem c_set_current (w : World) (v : Str) (t : Tok) (hv : v.length ≤ 1000) {cur : Str} {c lim lb bra ket : Int} {p1 : Option Int} : MethT w 2 20 42 [.str v t] cur c lim lb bra ket p1 True (fun K => K .none v 0 v.length 0 0 v.length p1) := by
  refine ⟨_, _, m_set_current w v t hv, fun h => h, ?_⟩
  rintro K q r σ' ⟨rfl, rfl⟩
  exact ⟨_, _, _, _, _, _, _, rfl, q⟩
theorem c_get_current (w : World) {cur : Str} {c lim lb bra ket p1 : Int} : Meth7 w 2 10 49 [] cur c lim lb bra ket p1 True (fun K => ∀ t, K (.str cur t) cur c lim lb bra ket p1) := by
  refine ⟨_, _, m_get_current w, fun h => h, ?_⟩
  rintro K q r σ' ⟨⟨t, rfl⟩, rfl⟩
  exact ⟨_, _, _, _, _, _, _, rfl, q t⟩
set_option hygiene false in
local macro_rules | `(tactic| k_get) => `(tactic| first | exact get6_0 | exact get6_1 | exact get6_2 | exact get6_3 | exact get6_4 | exact get6_5 | (refine' DictT.none (by with_reducible assumption) ?h0 ?h1; (case h0 => k_get); (case h1 => (intro _ _ _; k_get))))
set_option hygiene false in
local macro_rules | `(tactic| walk_at "hT") => `(tactic| (case hσ => exact DictT.is (by with_reducible assumption)))
set_option hygiene false in
local macro_rules | `(tactic| walk_at "call ref") => `(tactic| (k_here; k_dflt (apply Meth7.use (c_get_current _); walk_at "g7"; walk_at "gM"); walk_at "o7"))
set_option hygiene false in
local macro_rules | `(tactic| walk_at "call ref") => `(tactic| (k_here; k_dflt (apply MethCT.use (c_stem _); walk_at "g7"; walk_at "hT"; walk_at "gC"); walk_at "o7"))
set_option hygiene false in
local macro_rules | `(tactic| walk_at "call ref") => `(tactic| (k_here; k_dflt (apply MethT.use (c_set_current _ _ _ ?hv); walk_at "g7"; walk_at "hT"; (case hv => with_reducible assumption); walk_at "gM"); walk_at "o7"))

set_option maxHeartbeats 8000000 in
theorem m_stemWord (w : World) (v : Str) (t : Tok) (hv : v.length ≤ 1000) : MethC w 17 200 189 [.str v t] (fun _ => True)
    (fun σ r σ' => (∃ cur' t', r = .str cur' t' ∧ StemR v cur' ∧ cur'.length ≤ v.length) ∧ σ'.p1.isSome = true) := by
  constructor
  intro mean mg mb A₀ A base h₀ env outer L m s x dx o σ rest Q E B F X N T XB TB DK hh hrest hxd hA hf hk hd hu hσ hp hQ
  have hxd2 := neN hxd
  obtain ⟨cur, c, lim, lb, bra, ket, p1⟩ := σ
  obtain ⟨sh, sg, sd, st, so⟩ := s
  dsimp only at F N hQ
  clear hp
  have hQ2 : ∀ {cur' : Str} {t' : Tok} {c' l' lb' b' k' p' : Int} {o' : Obj} {h' : Heap} {tk' : Tok} {h₀' : Heap}, DictIs w.params ⟨cur', c', l', lb', b', k', some p'⟩ o' → cur'.length ≤ v.length → StemR v cur' → KtsTurn (frs outer) h₀ h₀' → Fr h₀' L h' m → News h₀' L h' ((x, instObj 494 dx) :: (dx, o') :: rest) → Below A₀ base outer h₀' → (KF w.params).In h₀' → Top vq (looseW vq vloose) mean mg mb h₀' → KtsDicts (frs outer) h₀' → Q (.str cur' t') ⟨h', sg, sd, tk', so⟩ := fun a b c d e f g i j k => hQ _ _ _ _ _ _ a ⟨⟨_, _, rfl, c, b⟩, rfl⟩ d e f g i j k
  clear hQ
  obtain ⟨zk, tl, nn, rfl, hT⟩ := dict_tail hσ
  clear hσ
  walk_at "m_enterT"
  walk_at "m_steps"
  all_goals (try dsimp only)
  rename StemR _ _ => fR
  (refine' hQ2 ?cd ?le fR ?cT ?cF ?cN ?cB ?cX ?cP ?cD; (case cF => first | with_reducible assumption | assumption); (case cN => first | with_reducible assumption | assumption); (case cT => first | with_reducible assumption | exact KtsTurn.refl | assumption); (case cB => first | with_reducible assumption | assumption); (case cX => first | with_reducible assumption | assumption); (case cP => first | with_reducible assumption | assumption); (case cD => first | with_reducible assumption | assumption); (case cd => exact dict_some); (case le => omega))

theorem c_stemWord (w : World) (v : Str) (t : Tok) (hv : v.length ≤ 1000) {cur : Str} {c lim lb bra ket p1 : Int} : MethC7 w 17 200 189 [.str v t] cur c lim lb bra ket p1 True
    (fun K => ∀ cur' t' cu c' l' lb' b' k' p', StemR v cur' → cur'.length ≤ v.length → K (.str cur' t') cu c' l' lb' b' k' p') := by
  refine ⟨_, _, m_stemWord w v t hv, fun h => h, ?_⟩
  rintro K q r ⟨cu, c', l', lb', b', k', p'⟩ ⟨⟨cur', t', rfl, h1, h2⟩, h3⟩
  obtain ⟨p', rfl⟩ := Option.isSome_iff_exists.mp h3
  exact ⟨_, _, _, _, _, _, _, rfl, q cur' t' cu c' l' lb' b' k' p' h1 h2⟩
theorem c_stemWordT (w : World) (v : Str) (t : Tok) (hv : v.length ≤ 1000) {cur : Str} {c lim lb bra ket : Int} {p1 : Option Int} : MethCT w 17 200 189 [.str v t] cur c lim lb bra ket p1 True
    (fun K => ∀ cur' t' cu c' l' lb' b' k' p', StemR v cur' → cur'.length ≤ v.length → K (.str cur' t') cu c' l' lb' b' k' p') := by
  refine ⟨_, _, m_stemWord w v t hv, fun h => h, ?_⟩
  rintro K q r ⟨cu, c', l', lb', b', k', p'⟩ ⟨⟨cur', t', rfl, h1, h2⟩, h3⟩
  obtain ⟨p', rfl⟩ := Option.isSome_iff_exists.mp h3
  exact ⟨_, _, _, _, _, _, _, rfl, q cur' t' cu c' l' lb' b' k' p' h1 h2⟩
end
-- W16
section
open PySem PySem.W PySem.Calls PyProof.Rows PySem.Spec

theorem unstop16 {P : Prop} (h : P) : Stop P := by unfold Stop; exact h
theorem stopped16 {P : Prop} (h : Stop P) : P := by unfold Stop at h; exact h

/-- the contract of a def that leaves nothing behind -/
structure FnC (w : World) (D U : Nat) (f : Addr) (args : List Value) (post : Value → Prop) : Prop where
  run : ∀ {mean : ExcName → Option Value} {mg mb : Str → Option Value} {A₀ A : Around} {base h₀ : Heap} {env : Env} {outer : List Env} {L : Addr} {m : Str → Option Value} {s : Shared} {news : List (Addr × Obj)} {Q E : Value → Shared → Prop},
    Fr h₀ L s.heap m → Below A₀ base outer h₀ → (KF w.params).In h₀ → News h₀ L s.heap news → Top vq (looseW vq vloose) mean mg mb h₀ → A.handled = none →
    A.frames = some (env :: outer) → env.frame = some L → env.scope.kind = .function → A.depth + D < recursionLimit → A.units + U < cLine →
    (∀ r h' tk', post r → Fr h₀ L h' m → News h₀ L h' news → Q r { s with heap := h', toks := tk' }) →
    wpAny (model pw w) A (call (.ref f) args) Q E s
/-- the contract of a def that makes a list of strs -/
structure ListFn (w : World) (D U : Nat) (f : Addr) (ws : List Str) : Prop where
  run : ∀ {mean : ExcName → Option Value} {mg mb : Str → Option Value} {A₀ A : Around} {base h₀ : Heap} {env : Env} {outer : List Env} {L : Addr} {m : Str → Option Value} {s : Shared} {news : List (Addr × Obj)} {Q E : Value → Shared → Prop},
    Fr h₀ L s.heap m → Below A₀ base outer h₀ → (KF w.params).In h₀ → News h₀ L s.heap news → Top vq (looseW vq vloose) mean mg mb h₀ → A.handled = none →
    A.frames = some (env :: outer) → env.frame = some L → env.scope.kind = .function → A.depth + D < recursionLimit → A.units + U < cLine →
    (∀ l vs h' tk', StrsAre vs ws → Fr h₀ L h' m → News h₀ L h' ((l, W.listOf vs.toArray 0) :: news) → Q (.ref l) { s with heap := h', toks := tk' }) →
    wpAny (model pw w) A (call (.ref f) []) Q E s

/-- a def's contract told by what is left to show behind each of its ends -/
noncomputable def FnK (w : World) (D U : Nat) (f : Addr) (args : List Value) (Out : (Value → Prop) → Prop) : Prop := ∃ post, FnC w D U f args post ∧ ∀ K, Out K → ∀ r, post r → K r
theorem FnK.use {w : World} {D U : Nat} {f : Addr} {args : List Value} {Out : (Value → Prop) → Prop} (S : FnK w D U f args Out) {mean : ExcName → Option Value} {mg mb : Str → Option Value} {A₀ A : Around} {base h₀ : Heap} {env : Env} {outer : List Env} {L : Addr} {m : Str → Option Value} {s : Shared} {news : List (Addr × Obj)} {Q E : Value → Shared → Prop}
    (F : Fr h₀ L s.heap m) (B : Below A₀ base outer h₀) (X : (KF w.params).In h₀) (N : News h₀ L s.heap news) (T : Top vq (looseW vq vloose) mean mg mb h₀) (hh : A.handled = none)
    (hA : A.frames = some (env :: outer)) (hf : env.frame = some L) (hk : env.scope.kind = .function) (hd : A.depth + D < recursionLimit) (hu : A.units + U < cLine)
    (hQ : Out fun r => ∀ h' tk', Fr h₀ L h' m → News h₀ L h' news → Q r { s with heap := h', toks := tk' }) :
    wpAny (model pw w) A (call (.ref f) args) Q E s := by
  obtain ⟨post, S, h⟩ := S
  exact S.run F B X N T hh hA hf hk hd hu fun r h' tk' hp F' N' => h _ hQ r hp h' tk' F' N'
theorem ListFn.use {w : World} {D U : Nat} {f : Addr} {ws : List Str} (S : ListFn w D U f ws) {mean : ExcName → Option Value} {mg mb : Str → Option Value} {A₀ A : Around} {base h₀ : Heap} {env : Env} {outer : List Env} {L : Addr} {m : Str → Option Value} {s : Shared} {news : List (Addr × Obj)} {Q E : Value → Shared → Prop}
    (F : Fr h₀ L s.heap m) (B : Below A₀ base outer h₀) (X : (KF w.params).In h₀) (N : News h₀ L s.heap news) (T : Top vq (looseW vq vloose) mean mg mb h₀) (hh : A.handled = none)
    (hA : A.frames = some (env :: outer)) (hf : env.frame = some L) (hk : env.scope.kind = .function) (hd : A.depth + D < recursionLimit) (hu : A.units + U < cLine)
    (hQ : ∀ l vs h' tk', StrsAre vs ws → Fr h₀ L h' m → News h₀ L h' ((l, W.listOf vs.toArray 0) :: news) → Q (.ref l) { s with heap := h', toks := tk' }) :
    wpAny (model pw w) A (call (.ref f) []) Q E s := S.run F B X N T hh hA hf hk hd hu hQ

noncomputable def ws_vowels : List Str := [Str.ofString "a", Str.ofString "e", Str.ofString "i", Str.ofString "o", Str.ofString "u", Str.ofString "y", Str.ofString "å", Str.ofString "ä", Str.ofString "ö"]
set_option maxHeartbeats 8000000 in
theorem f_vowels (w : World) : ListFn w 2 20 516 ws_vowels := by
  constructor
  intro mean mg mb A₀ A base h₀ env outer L m s news Q E F B X N T hh hA hf hk hd hu hQ
  obtain ⟨sh, sg, sd, st, so⟩ := s
  dsimp only at F N hQ
  walk_at "m_enter"
  walk_at "m_steps"

  rename News _ _ _ _ => N8
  rename Fr _ _ _ _ => F8
  exact hQ _ _ _ _ (.cons _ _ (.cons _ _ (.cons _ _ (.cons _ _ (.cons _ _ (.cons _ _ (.cons _ _ (.cons _ _ (.cons _ _ (.nil)))))))))) F8 N8

noncomputable def ws_before_s : List Str := [Str.ofString "b", Str.ofString "c", Str.ofString "d", Str.ofString "f", Str.ofString "g", Str.ofString "h", Str.ofString "j", Str.ofString "k", Str.ofString "l", Str.ofString "m", Str.ofString "n", Str.ofString "o", Str.ofString "p", Str.ofString "r", Str.ofString "t", Str.ofString "v", Str.ofString "y"]
set_option maxHeartbeats 8000000 in
theorem f_before_s (w : World) : ListFn w 2 20 523 ws_before_s := by
  constructor
  intro mean mg mb A₀ A base h₀ env outer L m s news Q E F B X N T hh hA hf hk hd hu hQ
  obtain ⟨sh, sg, sd, st, so⟩ := s
  dsimp only at F N hQ
  walk_at "m_enter"
  walk_at "m_steps"

  rename News _ _ _ _ => N8
  rename Fr _ _ _ _ => F8
  exact hQ _ _ _ _ (.cons _ _ (.cons _ _ (.cons _ _ (.cons _ _ (.cons _ _ (.cons _ _ (.cons _ _ (.cons _ _ (.cons _ _ (.cons _ _ (.cons _ _ (.cons _ _ (.cons _ _ (.cons _ _ (.cons _ _ (.cons _ _ (.cons _ _ (.nil)))))))))))))))))) F8 N8

noncomputable def ws_before_ost : List Str := [Str.ofString "i", Str.ofString "k", Str.ofString "l", Str.ofString "n", Str.ofString "p", Str.ofString "r", Str.ofString "t", Str.ofString "u", Str.ofString "v"]
set_option maxHeartbeats 8000000 in
theorem f_before_ost (w : World) : ListFn w 2 20 530 ws_before_ost := by
  constructor
  intro mean mg mb A₀ A base h₀ env outer L m s news Q E F B X N T hh hA hf hk hd hu hQ
  obtain ⟨sh, sg, sd, st, so⟩ := s
  dsimp only at F N hQ
  walk_at "m_enter"
  walk_at "m_steps"

  rename News _ _ _ _ => N8
  rename Fr _ _ _ _ => F8
  exact hQ _ _ _ _ (.cons _ _ (.cons _ _ (.cons _ _ (.cons _ _ (.cons _ _ (.cons _ _ (.cons _ _ (.cons _ _ (.cons _ _ (.nil)))))))))) F8 N8

theorem any_mem {l1 l2 : List Str} (h1 : ∀ y ∈ l1, y ∈ l2) (h2 : ∀ y ∈ l2, y ∈ l1) (x : Str) : l2.any (· == x) = decide (x ∈ l1) := by
  by_cases h : x ∈ l1
  · rw [decide_eq_true h, List.any_eq_true]; exact ⟨x, h1 x h, by simp⟩
  · rw [decide_eq_false h, List.any_eq_false]; intro y hy he; exact h (beq_iff_eq.mp he ▸ h2 y hy)
theorem mem0 (x : Str) : ws_vowels.any (· == x) = memOf xs0 x := any_mem (by decide +kernel) (by decide +kernel) x
theorem mem1 (x : Str) : ws_before_s.any (· == x) = memOf xs1 x := any_mem (by decide +kernel) (by decide +kernel) x
theorem mem2 (x : Str) : ws_before_ost.any (· == x) = memOf xs2 x := any_mem (by decide +kernel) (by decide +kernel) x
end
section
open PySem PySem.W PySem.Calls PyProof.Rows PySem.Spec
set_option hygiene false in
local macro_rules | `(tactic| walk_at "gF") => `(tactic| ((case F | B | X | N | T => k_asm); (case hh => walk_at "hh"); (case hA => exact Around.frames_deeper (by k_all)); (case hf | hk => exact rfl); (case hd => (simp only [depth_deeper, depth_in1]; first | with_reducible exact lt_dep1 (by with_reducible assumption) (by decide) | with_reducible exact lt_dep0 (by with_reducible assumption) (by decide) | omega)); (case hu => (simp only [units_deeper, units_in1]; first | with_reducible exact lt_dep1 (by with_reducible assumption) (by decide) | with_reducible exact lt_dep0 (by with_reducible assumption) (by decide) | omega))))
set_option hygiene false in
local macro_rules | `(tactic| walk_at "oF") => `(tactic| ((repeat' (with_reducible apply And.intro)) <;> ((repeat (with_reducible intro _)); (try k_sweep))))
local macro_rules | `(tactic| walk_at "subscriptTail Name Name str int") => `(tactic| (refine item_str (fitsSsize_of (N := 9223372036854775808) (by omega) (by omega) (Int.le_refl _)) (by omega) (by omega) ?_; intro _))
local macro_rules | `(tactic| walk_at "subscriptTail Name BinOp str int") => `(tactic| (refine item_str (fitsSsize_of (N := 9223372036854775808) (by omega) (by omega) (Int.le_refl _)) (by omega) (by omega) ?_; intro _))
local macro_rules | `(tactic| walk_at "loadName") => `(tactic| (k_here; k_dflt (refine' wpAny_loadName_local ?k1 ?k2 ?k3 ?k4 ?_; (case k1 | k2 => exact rfl); (case k3 => exact Fr.ns (by k_asm)); (case k4 => first | with_reducible assumption | exact rfl | assumption); k_whole)))
local macro_rules | `(tactic| walk_at "eval Name") => `(tactic| (k_here; k_dflt (refine' ld ?k1 ?k2 ?_; (case k1 => k_asm); (case k2 => first | with_reducible assumption | exact rfl | assumption); k_whole)))
local macro_rules | `(tactic| walk_at "exec For Name Call cons nil") => `(tactic| (k_here; refine stop_at ?_))
local macro_rules | `(tactic| k_in) => `(tactic| first | exact Frag.In.keeps (by k_asm) (Fr.keep (by k_asm)) | assumption)
-- W17
section
open PySem PySem.W PySem.Calls PyProof.Rows PySem.Spec

theorem unstop17 {P : Prop} (h : P) : Stop P := by unfold Stop; exact h
theorem stopped17 {P : Prop} (h : Stop P) : P := by unfold Stop at h; exact h
section
variable {prog : Program} {w : World} {A : Around} {E : Value → Shared → Prop} {s : Shared} {env : Env} {h₀ : Heap} {x : Str} {body : List Stmt} {Q : Flow → Shared → Prop}
open PyProof.V in
theorem for_step {r : Addr} {a₀ b₀ c₀ : Int} {t₀ u₀ v₀ : Tok} {m₀ : Str → Option Value} {news : List (Addr × Obj)} (n : Nat) (J : Nat → (Str → Option Value) → Prop)
    (hr : IsRange s.heap r a₀ b₀ c₀ t₀ u₀ v₀) (hsm : Builtin.Range.small a₀ b₀ c₀ = true) (hn : Builtin.Range.rangeSize a₀ b₀ c₀ = (n : Int)) (hh : A.handled = none) (F : Fr h₀ env.locals s.heap m₀) (N : News h₀ env.locals s.heap news) (hj : J 0 m₀)
    (turn : ∀ i t m₁ h tk own, i < n → J i m₁ → Fr h₀ env.locals h (fun y => if y = x then some (.int (a₀ + (i : Int) * c₀) t) else m₁ y) → News h₀ env.locals h (news ++ own) →
      wpAny (model prog w) A (execs body env) (InvPostN h₀ env.locals (fun m nx => nx = news ∧ J (i + 1) m) own (news.map (·.1)) { s with heap := h, toks := tk } Q) E { s with heap := h, toks := tk })
    (done : ∀ m₁ h tk, J n m₁ → Fr h₀ env.locals h m₁ → News h₀ env.locals h news → Q .next { s with heap := h, toks := tk }) :
    wpAny (model prog w) A (pyIter (.ref r)) (fun it s₂ => LoopAtV prog w A h₀ env x body Q E it s₂) E s := by
  refine wpAny_pyIter_range hr hsm ?_
  have W : Walks prog w A s.heap.objs.size [s.heap.objs.size] [s.heap.objs.size] n (fun i v => i < n ∧ ∃ t, v = .int (a₀ + i * c₀) t)
      (fun i h => IsRangeIter h s.heap.objs.size (a₀ + (i : Nat) * c₀) ((n : Int) - (i : Nat)) c₀) := (Walks.range hh _ a₀ c₀ _).bound
  refine loop_invN (fun i m nx => nx = news ∧ J i m) W ?_ ?_ ?_ ?_ (by show IsRangeIter _ _ _ _ _; rw [hn]; simpa using Heap.get?_push_size _ rfl) (F.push _) (fun p hp => ⟨Heap.get?_push_of_some _ (N p hp).1, (N p hp).2⟩) ⟨rfl, hj⟩ ?_ ?_
  · intro hm
    exact absurd F.ns.lt ((List.mem_singleton.mp hm) ▸ Nat.lt_irrefl _)
  · intro b hb
    rw [List.mem_singleton.mp hb]
    exact next_is_new F
  · intro p hp hI
    exact absurd (Heap.lt_size (N p hp).1) ((List.mem_singleton.mp hI) ▸ Nat.lt_irrefl _)
  · intro p hp hI
    exact absurd (Heap.lt_size (N p hp).1) ((List.mem_singleton.mp hI) ▸ Nat.lt_irrefl _)
  · rintro i v m₁ nx h tk own hi ⟨_, t, rfl⟩ _ hoff ⟨rfl, hJ⟩ F₁ N₁
    exact turn i t m₁ h tk own hi hJ F₁ N₁
  · rintro m₁ nx h tk ⟨rfl, hJ⟩ F₁ N₁
    exact done m₁ h tk hJ F₁ N₁
end

section
variable {w : World} {A : Around} {s : Shared} {E : Value → Shared → Prop} {Q : Value → Shared → Prop} {h₀ : Heap} {L : Addr} {m : Str → Option Value}
theorem in_strs {l : Addr} {vs : List Value} {ys : List Str} {k : Str} {t : Tok} {b : Bool} (hl : s.heap.IsList l vs.toArray) (hi : StrsAre vs ys) (hb : ys.any (· == k) = b) (h : Q (.bool b) s) :
    wpAny (model pw w) A (compareOp .In (.str k t) (.ref l)) Q E s := in_list_strs hl hi (by rw [hb]; exact h)
theorem notin_strs {l : Addr} {vs : List Value} {ys : List Str} {k : Str} {t : Tok} {b : Bool} (hl : s.heap.IsList l vs.toArray) (hi : StrsAre vs ys) (hb : ys.any (· == k) = b) (h : Q (.bool (!b)) s) :
    wpAny (model pw w) A (compareOp .NotIn (.str k t) (.ref l)) Q E s := notin_list_strs hl hi (by rw [hb]; exact h)
theorem max_K {news : List (Addr × Obj)} {a b : Int} {t u : Tok} (hh : A.handled = none) (F : Fr h₀ L s.heap m) (N : News h₀ L s.heap news)
    (h : ∀ h' tk t', Fr h₀ L h' m → News h₀ L h' news → Q (.int (if b > a then b else a) t') { s with heap := h', toks := tk }) :
    wpAny (model pw w) A (call (.builtin "max") [.int a t, .int b u]) Q E s := max_two_N hh F N fun h' tk F' N' => h h' tk _ F' N'
end
local macro_rules | `(tactic| walk_at "compareOp In str ref") => `(tactic| (k_here; k_dflt (refine' in_strs ?k1 ?k2 ?k3 ?_; (case k1 => exact News.isList (by k_asm) (by news_mem)); (case k2 => k_all); (case k3 => first | with_reducible exact mem0 _ | with_reducible exact mem1 _ | with_reducible exact mem2 _ | exact mem0 _ | exact mem1 _ | exact mem2 _); k_whole)))
local macro_rules | `(tactic| walk_at "compareOp NotIn str ref") => `(tactic| (k_here; k_dflt (refine' notin_strs ?k1 ?k2 ?k3 ?_; (case k1 => exact News.isList (by k_asm) (by news_mem)); (case k2 => k_all); (case k3 => first | with_reducible exact mem0 _ | with_reducible exact mem1 _ | with_reducible exact mem2 _ | exact mem0 _ | exact mem1 _ | exact mem2 _); k_whole)))
set_option hygiene false in
local macro_rules | `(tactic| walk_at "call ref") => `(tactic| (k_here; k_dflt ((first | apply ListFn.use (f_vowels _) | apply ListFn.use (f_before_s _) | apply ListFn.use (f_before_ost _)); walk_at "gF"; k_whole); walk_at "oF"))
local macro_rules | `(tactic| walk_at "call builtin:max") => `(tactic| (k_here; k_dflt (refine' max_K ?hh ?F ?N ?_; (case hh => walk_at "hh"); (case F | N => k_asm); k_whole); intro mh mtk mt F' N'; (try k_sweep)))

set_option maxHeartbeats 8000000 in
theorem f_region (w : World) (v : Str) (t : Tok) (hv : v.length ≤ 1000) : FnC w 6 60 545 [.str v t] (fun r => ∃ p t, r = .int p t ∧ Region v p) := by
  constructor
  intro mean mg mb A₀ A base h₀ env outer L m s news Q E F B X N T hh hA hf hk hd hu hQ
  obtain ⟨sh, sg, sd, st, so⟩ := s
  dsimp only at F N hQ
  walk_at "m_enter"
  rename_i g1 L1 hE FGE FE NE BE XE TE
  walk_at "m_steps"
  · exact hQ _ _ _ ⟨_, _, rfl, Or.inl ⟨by omega, rfl⟩⟩ (by first | with_reducible assumption | assumption) (by first | with_reducible assumption | assumption)
  refine unstop ?_
  rename Fr g1 L1 _ _ => F1
  rename News g1 L1 _ _ => N1
  with_unfolding_all refine' For_invVF F1 ?k1 ?k2 ?_
  case k1 => exact rfl
  case k2 => exact rfl
  walk_at "m_steps"
  rename Fr g1 L1 _ _ => F5
  rename News g1 L1 _ _ => N5
  rename IsRange _ _ _ _ _ _ _ _ => R5
  refine for_step v.length (fun i m' => m' (Str.ofString "word") = some (.str v t) ∧ ∃ b, m' (Str.ofString "seen") = some (.bool b) ∧ (b = false → ∀ j : Int, 0 ≤ j → j < i → memOf xs0 (Txt.item v j) = false) ∧
    (b = true → ∃ j : Int, 0 ≤ j ∧ j < i ∧ (∀ i' : Int, 0 ≤ i' → i' < j → memOf xs0 (Txt.item v i') = false) ∧ memOf xs0 (Txt.item v j) = true ∧ ∀ i' : Int, j + 1 ≤ i' → i' < i → memOf xs0 (Txt.item v i') = true)) R5 (small_one (by omega) (by omega) (by omega) (by omega)) (by rw [rangeSize_one]; split <;> omega) hh F5 N5 ⟨rfl, false, rfl, fun _ j h1 h2 => absurd h1 (by omega), fun h => by cases h⟩ ?turn ?done
  case done =>
    rintro m' h' tk' ⟨j1, b, j2, j3, j4⟩ F6 N6
    walk_at "m_steps"
    refine hQ _ _ _ ⟨_, _, rfl, ?_⟩ (by first | with_reducible assumption | assumption) (by first | with_reducible assumption | assumption)
    cases b with
    | false => exact Or.inr (Or.inl ⟨by omega, fun j a b => j3 rfl j a b, rfl⟩)
    | true =>
      obtain ⟨j, a1, a2, a3, a4, a5⟩ := j4 rfl
      exact Or.inr (Or.inr ⟨by omega, j, a1, a2, a3, a4, Or.inl ⟨a5, rfl⟩⟩)
  clear F5 N5
  rintro i ti m₄ h₄ tk₄ own hi ⟨j1, b, j2, j3, j4⟩ F6 N6
  rw [show (0 : Int) + (i : Int) * 1 = i by omega] at F6
  have hb : b = true ∨ b = false := by cases b <;> simp
  have hb2 := j3
  walk_at "m_steps"
  · rename Fr g1 L1 _ _ => F8
    rename News g1 L1 _ _ => N8
    rename (_ ∈ List.map strOf xs0) => hm0
    have hm : memOf xs0 (Txt.item v i) = true := decide_eq_true hm0
    refine ⟨_, _, _, _, _, rfl, F8, N8, ?_, ?_, rfl, rfl, j1, true, rfl, fun h => (by cases h), fun _ => ?_⟩
    · intro p hp; simp only [List.mem_cons, List.mem_append]; simp [hp]
    · intro p hp; simp only [List.mem_cons, List.mem_append]; simp [hp]
    · cases b with
      | false => exact ⟨i, by omega, by omega, fun i' a b => j3 rfl i' a b, hm, fun i' a b => absurd a (by omega)⟩
      | true =>
        obtain ⟨j, a1, a2, a3, a4, a5⟩ := j4 rfl
        refine ⟨j, a1, by omega, a3, a4, fun i' a b => ?_⟩
        rcases Int.lt_or_le i' i with h | h
        · exact a5 i' a h
        · rw [show i' = (i : Int) by omega]; exact hm
  · rename (¬ _ ∈ List.map strOf xs0) => hm0
    have hm : memOf xs0 (Txt.item v i) = false := decide_eq_false hm0
    rename (b = true) => hbt
    obtain ⟨j, a1, a2, a3, a4, a5⟩ := j4 hbt
    rename News h₀ L _ _ => N9
    refine hQ _ _ _ ⟨_, _, rfl, Or.inr (Or.inr ⟨by omega, j, a1, by omega, a3, a4, Or.inr ⟨i, by omega, by omega, a5, hm, ?_⟩⟩)⟩ (by first | with_reducible assumption | assumption) (news_of_mem N9 fun p hp => by simp [hp])
    split <;> split <;> omega
  · rename Fr g1 L1 _ _ => F8
    rename News g1 L1 _ _ => N8
    rename (¬ _ ∈ List.map strOf xs0) => hm0
    have hm : memOf xs0 (Txt.item v i) = false := decide_eq_false hm0
    rename (b = false) => hbf
    refine ⟨_, _, _, _, _, rfl, F8, N8, ?_, ?_, rfl, rfl, j1, false, (by rw [← hbf]; exact j2), fun _ j a1 a2 => ?_, fun h => (by cases h)⟩
    · intro p hp; simp only [List.mem_cons, List.mem_append]; simp [hp]
    · intro p hp; simp only [List.mem_cons, List.mem_append]; simp [hp]
    · rcases Int.lt_or_le j i with h | h
      · exact j3 hbf j a1 h
      · rw [show j = (i : Int) by omega]; exact hm
theorem c_region (w : World) (v : Str) (t : Tok) (hv : v.length ≤ 1000) : FnK w 6 60 545 [.str v t] (fun K => ∀ p t, Region v p → K (.int p t)) :=
  ⟨_, f_region w v t hv, fun K q r ⟨p, t, e, h⟩ => e ▸ q p t h⟩
end
section
open PySem PySem.W PySem.Calls PyProof.Rows PySem.Spec
set_option hygiene false in
local macro_rules | `(tactic| walk_at "call ref") => `(tactic| (k_here; k_dflt ((first | apply ListFn.use (f_vowels _) | apply ListFn.use (f_before_s _) | apply ListFn.use (f_before_ost _)); walk_at "gF"; k_whole); walk_at "oF"))
local macro_rules | `(tactic| walk_at "compareOp In str ref") => `(tactic| (k_here; k_dflt (refine' in_strs ?k1 ?k2 ?k3 ?_; (case k1 => exact News.isList (by k_asm) (by news_mem)); (case k2 => k_all); (case k3 => first | with_reducible exact mem0 _ | with_reducible exact mem1 _ | with_reducible exact mem2 _ | exact mem0 _ | exact mem1 _ | exact mem2 _); k_whole)))
local macro_rules | `(tactic| walk_at "compareOp NotIn str ref") => `(tactic| (k_here; k_dflt (refine' notin_strs ?k1 ?k2 ?k3 ?_; (case k1 => exact News.isList (by k_asm) (by news_mem)); (case k2 => k_all); (case k3 => first | with_reducible exact mem0 _ | with_reducible exact mem1 _ | with_reducible exact mem2 _ | exact mem0 _ | exact mem1 _ | exact mem2 _); k_whole)))
-- W18
section
open PySem PySem.W PySem.Calls PyProof.Rows PySem.Spec

theorem unstop18 {P : Prop} (h : P) : Stop P := by unfold Stop; exact h
theorem stopped18 {P : Prop} (h : Stop P) : P := by unfold Stop at h; exact h

noncomputable def ListAt (P : Params) (a : Addr) (ws : List Str) : Prop := ∃ vs k, (KF P).lookup a = some ⟨.type "list", none, .seq (List.toArray vs) k, #[]⟩ ∧ StrsAre vs ws
theorem ListAt.isList {P : Params} {a : Addr} {ws : List Str} (T : ListAt P a ws) {h : Heap} (X : (KF P).In h) : ∃ vs : List Value, h.IsList a vs.toArray ∧ StrsAre vs ws := by
  obtain ⟨vs, k, hk, hs⟩ := T
  exact ⟨vs, ⟨_, X _ _ hk, rfl, ⟨k, rfl⟩⟩, hs⟩
section
variable {w : World} {A : Around} {s : Shared} {E : Value → Shared → Prop} {Q : Value → Shared → Prop} {h₀ : Heap} {L : Addr} {m : Str → Option Value}
theorem in_strsK {l : Addr} {ys : List Str} {k : Str} {t : Tok} (T : ListAt w.params l ys) (F : Fr h₀ L s.heap m) (X : (KF w.params).In h₀) (h : Q (.bool (ys.any (· == k))) s) :
    wpAny (model pw w) A (compareOp .In (.str k t) (.ref l)) Q E s := by
  obtain ⟨vs, h1, h2⟩ := T.isList (X.keeps F.keep)
  exact in_list_strs h1 h2 h
end
/-- what _law_longest answers -/
noncomputable def LgS (ws : List Str) (v e : Str) : Prop :=
  (∃ z : Int, 1 ≤ z ∧ z ≤ 7 ∧ z ≤ v.length ∧ e = Txt.slice v (some (v.length - z)) none ∧ ws.any (· == e) = true ∧ ∀ z' : Int, z < z' → z' ≤ 7 → z' ≤ v.length → ws.any (· == Txt.slice v (some (v.length - z')) none) = false) ∨
  (e = Str.ofString "" ∧ ∀ z' : Int, 1 ≤ z' → z' ≤ 7 → z' ≤ v.length → ws.any (· == Txt.slice v (some (v.length - z')) none) = false)
section
variable {prog : Program} {w : World} {A : Around} {E : Value → Shared → Prop} {s : Shared} {env : Env} {h₀ : Heap} {x : Str} {body : List Stmt} {Q : Flow → Shared → Prop}
open PyProof.V in
theorem longest_loop {v : Str} {t : Tok} {a : Addr} {ws : List Str} {r : Addr} {mn : Int} {t₀ u₀ v₀ : Tok} {m₀ : Str → Option Value} {news : List (Addr × Obj)} (mn1 : mn = 7 ∨ mn = v.length) (mn2 : mn ≤ 7) (mn3 : mn ≤ v.length)
    (hr : IsRange s.heap r mn 0 (-1) t₀ u₀ v₀) (hh : A.handled = none) (F : Fr h₀ env.locals s.heap m₀) (N : News h₀ env.locals s.heap news) (hj : m₀ (Str.ofString "text") = some (.str v t)) (hj2 : m₀ (Str.ofString "ends") = some (.ref a))
    (turn : ∀ (i : Nat) (z : Int) (t' : Tok) (m₁ : Str → Option Value) (h : Heap) (tk : Tok) (own : List (Addr × Obj)), 1 ≤ z → (z ≤ 7 ∧ z ≤ v.length ∧ z = mn - (i : Int)) → m₁ (Str.ofString "text") = some (.str v t) → m₁ (Str.ofString "ends") = some (.ref a) → (∀ z' : Int, z < z' → z' ≤ mn → ws.any (· == Txt.slice v (some (v.length - z')) none) = false) →
      Fr h₀ env.locals h (fun y => if y = x then some (.int z t') else m₁ y) → News h₀ env.locals h (news ++ own) →
      wpAny (model prog w) A (execs body env) (InvPostN h₀ env.locals (fun m nx => nx = news ∧ m (Str.ofString "text") = some (.str v t) ∧ m (Str.ofString "ends") = some (.ref a) ∧ ∀ z' : Int, z - 1 < z' → z' ≤ mn → ws.any (· == Txt.slice v (some (v.length - z')) none) = false) own (news.map (·.1)) { s with heap := h, toks := tk } Q) E { s with heap := h, toks := tk })
    (done : ∀ (m₁ : Str → Option Value) (h : Heap) (tk : Tok), m₁ (Str.ofString "text") = some (.str v t) → m₁ (Str.ofString "ends") = some (.ref a) → (∀ z' : Int, 1 ≤ z' → z' ≤ mn → ws.any (· == Txt.slice v (some (v.length - z')) none) = false) → Fr h₀ env.locals h m₁ → News h₀ env.locals h news → Q .next { s with heap := h, toks := tk }) :
    wpAny (model prog w) A (pyIter (.ref r)) (fun it s₂ => LoopAtV prog w A h₀ env x body Q E it s₂) E s := by
  have h0 : 0 ≤ mn := by omega
  refine for_step mn.toNat (fun i m' => m' (Str.ofString "text") = some (.str v t) ∧ m' (Str.ofString "ends") = some (.ref a) ∧ ∀ z' : Int, mn - (i : Int) < z' → z' ≤ mn → ws.any (· == Txt.slice v (some (v.length - z')) none) = false) hr (small_down (by omega) (by omega) (by omega) (by omega)) (by rw [rangeSize_down]; split <;> omega) hh F N ⟨hj, hj2, fun z' a b => absurd a (by omega)⟩ ?_ ?_
  · rintro i ti m₁ h tk own hi ⟨j1, j2, j3⟩ F₁ N₁
    have e1 : mn + (i : Int) * (-1) = mn - (i : Int) := by omega
    rw [e1] at F₁
    have := turn i (mn - i) ti m₁ h tk own (by omega) ⟨by omega, by omega, rfl⟩ j1 j2 j3 F₁ N₁
    rw [show mn - (i : Int) - 1 = mn - ((i + 1 : Nat) : Int) by omega] at this
    exact this
  · rintro m₁ h tk ⟨j1, j2, j3⟩ F₁ N₁
    exact done m₁ h tk j1 j2 (fun z' a b => j3 z' (by omega) b) F₁ N₁
end
local macro_rules | `(tactic| walk_at "compareOp In str ref") => `(tactic| (k_here; k_dflt (refine' in_strsK ?k1 ?k2 ?k3 ?_; (case k1 => k_all); (case k2 | k3 => k_asm); k_whole)))
local macro_rules | `(tactic| walk_at "call builtin:min") => `(tactic| (k_here; k_dflt (refine' min_K ?hh ?F ?N ?_; (case hh => walk_at "hh"); (case F | N => k_asm); k_whole); intro mh mtk mn mt mn1 mn2 mn3 F' N'; (try k_sweep)))
set_option maxHeartbeats 8000000 in
theorem f_longest (w : World) (v : Str) (t : Tok) (hv : v.length ≤ 1000) (a : Addr) (ws : List Str) (hW : ListAt w.params a ws) : FnC w 4 60 552 [.str v t, .ref a] (fun r => ∃ e t, r = .str e t ∧ LgS ws v e) := by
  constructor
  intro mean mg mb A₀ A base h₀ env outer L m s news Q E F B X N T hh hA hf hk hd hu hQ
  obtain ⟨sh, sg, sd, st, so⟩ := s
  dsimp only at F N hQ
  walk_at "m_enter"
  rename_i g1 L1 hE FGE FE NE BE XE TE
  walk_at "m_steps"
  refine unstop ?_
  rename Fr g1 L1 _ _ => F1
  rename News g1 L1 _ _ => N1
  with_unfolding_all refine' For_invVF F1 ?k1 ?k2 ?_
  case k1 => exact rfl
  case k2 => exact rfl
  walk_at "m_steps"
  rename Fr g1 L1 _ _ => F5
  rename News g1 L1 _ _ => N5
  rename IsRange _ _ _ _ _ _ _ _ => R5
  rename (_ = (7 : Int) ∨ _) => mn1
  rename (_ ≤ (7 : Int)) => mn2
  rename (_ ≤ (v.length : Int)) => mn3
  refine longest_loop (ws := ws) mn1 mn2 mn3 R5 hh F5 N5 rfl rfl ?turn ?done
  case done =>
    rintro m' h' tk' j1 j2 j3 F6 N6
    walk_at "m_steps"
    exact hQ _ _ _ ⟨_, _, rfl, Or.inr ⟨rfl, fun z' a b c => j3 z' a (by omega)⟩⟩ (by first | with_reducible assumption | assumption) (by first | with_reducible assumption | assumption)
  clear F5 N5 R5
  rintro i z ti m₄ h₄ tk₄ own hz ⟨hz1, hz2, hz3⟩ j1 j2 j3 F6 N6
  walk_at "m_steps"
  · rename (List.any ws _ = true) => hm
    rename News h₀ L _ _ => N9
    exact hQ _ _ _ ⟨_, _, rfl, Or.inl ⟨z, hz, hz1, hz2, rfl, hm, fun z' a b c => j3 z' a (by omega)⟩⟩ (by first | with_reducible assumption | assumption) (news_of_mem N9 fun p hp => by simp [hp])
  · rename Fr g1 L1 _ _ => F8
    rename News g1 L1 _ _ => N8
    rename (List.any ws _ = false) => hm
    refine ⟨_, _, _, _, _, rfl, F8, N8, fun p hp => by simp [hp], fun p hp => by simp [hp], rfl, rfl, j1, j2, fun z' a b => ?_⟩
    rcases Int.lt_or_le z z' with h | h
    · exact j3 z' h b
    · rw [show z' = z by omega]; exact hm
theorem c_longest (w : World) (v : Str) (t : Tok) (hv : v.length ≤ 1000) (a : Addr) (ws : List Str) (hW : ListAt w.params a ws) : FnK w 4 60 552 [.str v t, .ref a] (fun K => ∀ e t, LgS ws v e → K (.str e t)) :=
  ⟨_, f_longest w v t hv a ws hW, fun K q r ⟨e, t, h, h2⟩ => h ▸ q e t h2⟩
end
-- W19
section
open PySem PySem.W PySem.Calls PyProof.Rows PySem.Spec

theorem unstop19 {P : Prop} (h : P) : Stop P := by unfold Stop; exact h
theorem stopped19 {P : Prop} (h : Stop P) : P := by unfold Stop at h; exact h
noncomputable def ws_stays : List Str := [Str.ofString "fab", Str.ofString "h", Str.ofString "pak", Str.ofString "rak", Str.ofString "stak", Str.ofString "kom", Str.ofString "iet", Str.ofString "cit", Str.ofString "dit", Str.ofString "alit", Str.ofString "ilit", Str.ofString "mit", Str.ofString "nit", Str.ofString "pit", Str.ofString "rit", Str.ofString "sit", Str.ofString "tit", Str.ofString "uit", Str.ofString "ivit", Str.ofString "kvit", Str.ofString "xit"]
theorem at_stays (P : Params) : ListAt P 531 ws_stays := ⟨.str (Str.ofString "fab") 1653 :: .str (Str.ofString "h") 1654 :: .str (Str.ofString "pak") 1655 :: .str (Str.ofString "rak") 1656 :: .str (Str.ofString "stak") 1657 :: .str (Str.ofString "kom") 1658 :: .str (Str.ofString "iet") 1659 :: .str (Str.ofString "cit") 1660 :: .str (Str.ofString "dit") 1661 :: .str (Str.ofString "alit") 1662 :: .str (Str.ofString "ilit") 1663 :: .str (Str.ofString "mit") 1664 :: .str (Str.ofString "nit") 1665 :: .str (Str.ofString "pit") 1666 :: .str (Str.ofString "rit") 1667 :: .str (Str.ofString "sit") 1668 :: .str (Str.ofString "tit") 1669 :: .str (Str.ofString "uit") 1670 :: .str (Str.ofString "ivit") 1671 :: .str (Str.ofString "kvit") 1672 :: .str (Str.ofString "xit") 1673 :: [], 0, show (KF P).lookup 531 = some (o531 P) by k_is, .cons _ _ (.cons _ _ (.cons _ _ (.cons _ _ (.cons _ _ (.cons _ _ (.cons _ _ (.cons _ _ (.cons _ _ (.cons _ _ (.cons _ _ (.cons _ _ (.cons _ _ (.cons _ _ (.cons _ _ (.cons _ _ (.cons _ _ (.cons _ _ (.cons _ _ (.cons _ _ (.cons _ _ (.nil)))))))))))))))))))))⟩
noncomputable def ws_first : List Str := [Str.ofString "a", Str.ofString "arna", Str.ofString "erna", Str.ofString "orna", Str.ofString "heterna", Str.ofString "e", Str.ofString "ade", Str.ofString "ande", Str.ofString "arne", Str.ofString "are", Str.ofString "aste", Str.ofString "en", Str.ofString "anden", Str.ofString "aren", Str.ofString "heten", Str.ofString "ern", Str.ofString "ar", Str.ofString "er", Str.ofString "or", Str.ofString "heter", Str.ofString "ad", Str.ofString "at", Str.ofString "het", Str.ofString "andet", Str.ofString "ast", Str.ofString "as", Str.ofString "arnas", Str.ofString "ernas", Str.ofString "ornas", Str.ofString "es", Str.ofString "ades", Str.ofString "andes", Str.ofString "ens", Str.ofString "arens", Str.ofString "hetens", Str.ofString "erns", Str.ofString "s", Str.ofString "et"]
theorem at_first (P : Params) : ListAt P 532 ws_first := ⟨.str (Str.ofString "a") 1675 :: .str (Str.ofString "arna") 1676 :: .str (Str.ofString "erna") 1677 :: .str (Str.ofString "orna") 1678 :: .str (Str.ofString "heterna") 1679 :: .str (Str.ofString "e") 1680 :: .str (Str.ofString "ade") 1681 :: .str (Str.ofString "ande") 1682 :: .str (Str.ofString "arne") 1683 :: .str (Str.ofString "are") 1684 :: .str (Str.ofString "aste") 1685 :: .str (Str.ofString "en") 1686 :: .str (Str.ofString "anden") 1687 :: .str (Str.ofString "aren") 1688 :: .str (Str.ofString "heten") 1689 :: .str (Str.ofString "ern") 1690 :: .str (Str.ofString "ar") 1691 :: .str (Str.ofString "er") 1692 :: .str (Str.ofString "or") 1693 :: .str (Str.ofString "heter") 1694 :: .str (Str.ofString "ad") 1695 :: .str (Str.ofString "at") 1696 :: .str (Str.ofString "het") 1697 :: .str (Str.ofString "andet") 1698 :: .str (Str.ofString "ast") 1699 :: .str (Str.ofString "as") 1700 :: .str (Str.ofString "arnas") 1701 :: .str (Str.ofString "ernas") 1702 :: .str (Str.ofString "ornas") 1703 :: .str (Str.ofString "es") 1704 :: .str (Str.ofString "ades") 1705 :: .str (Str.ofString "andes") 1706 :: .str (Str.ofString "ens") 1707 :: .str (Str.ofString "arens") 1708 :: .str (Str.ofString "hetens") 1709 :: .str (Str.ofString "erns") 1710 :: .str (Str.ofString "s") 1711 :: .str (Str.ofString "et") 1712 :: [], 0, show (KF P).lookup 532 = some (o532 P) by k_is, .cons _ _ (.cons _ _ (.cons _ _ (.cons _ _ (.cons _ _ (.cons _ _ (.cons _ _ (.cons _ _ (.cons _ _ (.cons _ _ (.cons _ _ (.cons _ _ (.cons _ _ (.cons _ _ (.cons _ _ (.cons _ _ (.cons _ _ (.cons _ _ (.cons _ _ (.cons _ _ (.cons _ _ (.cons _ _ (.cons _ _ (.cons _ _ (.cons _ _ (.cons _ _ (.cons _ _ (.cons _ _ (.cons _ _ (.cons _ _ (.cons _ _ (.cons _ _ (.cons _ _ (.cons _ _ (.cons _ _ (.cons _ _ (.cons _ _ (.cons _ _ (.nil))))))))))))))))))))))))))))))))))))))⟩
noncomputable def ws_pairs : List Str := [Str.ofString "dd", Str.ofString "gd", Str.ofString "nn", Str.ofString "dt", Str.ofString "gt", Str.ofString "kt", Str.ofString "tt"]
theorem at_pairs (P : Params) : ListAt P 533 ws_pairs := ⟨.str (Str.ofString "dd") 1714 :: .str (Str.ofString "gd") 1715 :: .str (Str.ofString "nn") 1716 :: .str (Str.ofString "dt") 1717 :: .str (Str.ofString "gt") 1718 :: .str (Str.ofString "kt") 1719 :: .str (Str.ofString "tt") 1720 :: [], 0, show (KF P).lookup 533 = some (o533 P) by k_is, .cons _ _ (.cons _ _ (.cons _ _ (.cons _ _ (.cons _ _ (.cons _ _ (.cons _ _ (.nil)))))))⟩
noncomputable def ws_third : List Str := [Str.ofString "lig", Str.ofString "ig", Str.ofString "els", Str.ofString "öst", Str.ofString "fullt"]
theorem at_third (P : Params) : ListAt P 534 ws_third := ⟨.str (Str.ofString "lig") 1722 :: .str (Str.ofString "ig") 1723 :: .str (Str.ofString "els") 1724 :: .str (Str.ofString "öst") 1725 :: .str (Str.ofString "fullt") 1726 :: [], 0, show (KF P).lookup 534 = some (o534 P) by k_is, .cons _ _ (.cons _ _ (.cons _ _ (.cons _ _ (.cons _ _ (.nil)))))⟩
noncomputable def ws_often : List Str := [Str.ofString "ets", Str.ofString "a", Str.ofString "s", Str.ofString "et", Str.ofString "k", Str.ofString "lig", Str.ofString "t", Str.ofString "en", Str.ofString "å", Str.ofString "els", Str.ofString "r", Str.ofString "gt", Str.ofString "i", Str.ofString "öst", Str.ofString "e", Str.ofString "n", Str.ofString "fullt", Str.ofString "h", Str.ofString "ö", Str.ofString "d"]
theorem at_often (P : Params) : ListAt P 535 ws_often := ⟨.str (Str.ofString "ets") 1728 :: .str (Str.ofString "a") 1729 :: .str (Str.ofString "s") 1730 :: .str (Str.ofString "et") 1731 :: .str (Str.ofString "k") 1732 :: .str (Str.ofString "lig") 1733 :: .str (Str.ofString "t") 1734 :: .str (Str.ofString "en") 1735 :: .str (Str.ofString "å") 1736 :: .str (Str.ofString "els") 1737 :: .str (Str.ofString "r") 1738 :: .str (Str.ofString "gt") 1739 :: .str (Str.ofString "i") 1740 :: .str (Str.ofString "öst") 1741 :: .str (Str.ofString "e") 1742 :: .str (Str.ofString "n") 1743 :: .str (Str.ofString "fullt") 1744 :: .str (Str.ofString "h") 1745 :: .str (Str.ofString "ö") 1746 :: .str (Str.ofString "d") 1747 :: [], 0, show (KF P).lookup 535 = some (o535 P) by k_is, .cons _ _ (.cons _ _ (.cons _ _ (.cons _ _ (.cons _ _ (.cons _ _ (.cons _ _ (.cons _ _ (.cons _ _ (.cons _ _ (.cons _ _ (.cons _ _ (.cons _ _ (.cons _ _ (.cons _ _ (.cons _ _ (.cons _ _ (.cons _ _ (.cons _ _ (.cons _ _ (.nil))))))))))))))))))))⟩
noncomputable def ws_rest : List Str := [Str.ofString "b", Str.ofString "c", Str.ofString "f", Str.ofString "g", Str.ofString "j", Str.ofString "l", Str.ofString "m", Str.ofString "o", Str.ofString "p", Str.ofString "q", Str.ofString "u", Str.ofString "v", Str.ofString "w", Str.ofString "x", Str.ofString "y", Str.ofString "z", Str.ofString "ä"]
theorem at_rest (P : Params) : ListAt P 536 ws_rest := ⟨.str (Str.ofString "b") 1749 :: .str (Str.ofString "c") 1750 :: .str (Str.ofString "f") 1751 :: .str (Str.ofString "g") 1752 :: .str (Str.ofString "j") 1753 :: .str (Str.ofString "l") 1754 :: .str (Str.ofString "m") 1755 :: .str (Str.ofString "o") 1756 :: .str (Str.ofString "p") 1757 :: .str (Str.ofString "q") 1758 :: .str (Str.ofString "u") 1759 :: .str (Str.ofString "v") 1760 :: .str (Str.ofString "w") 1761 :: .str (Str.ofString "x") 1762 :: .str (Str.ofString "y") 1763 :: .str (Str.ofString "z") 1764 :: .str (Str.ofString "ä") 1765 :: [], 0, show (KF P).lookup 536 = some (o536 P) by k_is, .cons _ _ (.cons _ _ (.cons _ _ (.cons _ _ (.cons _ _ (.cons _ _ (.cons _ _ (.cons _ _ (.cons _ _ (.cons _ _ (.cons _ _ (.cons _ _ (.cons _ _ (.cons _ _ (.cons _ _ (.cons _ _ (.cons _ _ (.nil)))))))))))))))))⟩
noncomputable def ws_signs : List Str := [Str.ofString "é", Str.ofString "Å", Str.ofString "E", Str.ofString "æ", Str.ofString "ø", Str.ofString "ü", Str.ofString "-", Str.ofString "7"]
theorem at_signs (P : Params) : ListAt P 537 ws_signs := ⟨.str (Str.ofString "é") 1767 :: .str (Str.ofString "Å") 1768 :: .str (Str.ofString "E") 1769 :: .str (Str.ofString "æ") 1770 :: .str (Str.ofString "ø") 1771 :: .str (Str.ofString "ü") 1772 :: .str (Str.ofString "-") 1773 :: .str (Str.ofString "7") 1774 :: [], 0, show (KF P).lookup 537 = some (o537 P) by k_is, .cons _ _ (.cons _ _ (.cons _ _ (.cons _ _ (.cons _ _ (.cons _ _ (.cons _ _ (.cons _ _ (.nil))))))))⟩
noncomputable def ws_begins : List Str := [Str.ofString "hus", Str.ofString "land", Str.ofString "flick", Str.ofString "arbet", Str.ofString "rätt", Str.ofString "nyhet"]
theorem at_begins (P : Params) : ListAt P 538 ws_begins := ⟨.str (Str.ofString "hus") 1776 :: .str (Str.ofString "land") 1777 :: .str (Str.ofString "flick") 1778 :: .str (Str.ofString "arbet") 1779 :: .str (Str.ofString "rätt") 1780 :: .str (Str.ofString "nyhet") 1781 :: [], 0, show (KF P).lookup 538 = some (o538 P) by k_is, .cons _ _ (.cons _ _ (.cons _ _ (.cons _ _ (.cons _ _ (.cons _ _ (.nil))))))⟩
set_option hygiene false in
local macro_rules | `(tactic| walk_at "call ref") => `(tactic| (k_here; k_dflt (apply FnK.use (c_longest _ _ _ ?hv _ _ ?hW); walk_at "gF"; (case hW => exact at_stays _); (case hv => first | with_reducible assumption | omega | assumption); k_whole); walk_at "oF"))

/-- what _law_et_may_go answers -/
noncomputable def EtL (v : Str) : Prop := 3 ≤ v.length ∧ memOf xs0 (Txt.item v (v.length - 1)) = false ∧ memOf xs0 (Txt.item v (v.length - 2)) = true ∧ LgS ws_stays v (Str.ofString "")
theorem len_sl {v : Str} {z : Int} (h0 : 1 ≤ z) (h1 : z ≤ v.length) : ((Txt.slice v (some (v.length - z)) none).length : Int) = z := by
  have hs : v.length = v.cps.size := rfl
  have e2 := beq_iff_eq.mp (slice_closes_from (x := v) (i := v.length - z) ⟨by omega, by rw [Array.length_toList]; omega⟩)
  rw [e2]
  simp only [Str.length, List.size_toArray, List.length_take, List.length_drop, Array.length_toList]
  omega
theorem LgS.empty {ws : List Str} {v : Str} (h : LgS ws v (Str.ofString "")) : ∀ z' : Int, 1 ≤ z' → z' ≤ 7 → z' ≤ v.length → ws.any (· == Txt.slice v (some (v.length - z')) none) = false := by
  rcases h with ⟨z, h1, h2, h3, h4, _⟩ | ⟨_, h⟩
  · have := len_sl h1 h3
    rw [← h4, emp_len] at this
    omega
  · exact h
theorem LgS.not_empty {ws : List Str} {v e : Str} (h : LgS ws v e) (he : e ≠ Str.ofString "") : ¬ LgS ws v (Str.ofString "") := fun h' => by
  rcases h with ⟨z, h1, h2, h3, h4, h5, _⟩ | ⟨h, _⟩
  · have := h'.empty z h1 h2 h3
    rw [← h4, h5] at this
    cases this
  · exact he h
set_option maxHeartbeats 8000000 in
theorem f_et (w : World) (v : Str) (t : Tok) (hv : v.length ≤ 1000) : FnC w 6 80 559 [.str v t] (fun r => (r = .bool true ∧ EtL v) ∨ (r = .bool false ∧ ¬ EtL v)) := by
  constructor
  intro mean mg mb A₀ A base h₀ env outer L m s news Q E F B X N T hh hA hf hk hd hu hQ
  obtain ⟨sh, sg, sd, st, so⟩ := s
  dsimp only at F N hQ
  walk_at "m_enter"
  walk_at "m_steps"
  · rename News h₀ L _ _ => N9
    exact hQ _ _ _ (Or.inr ⟨rfl, fun h => by have := h.1; omega⟩) (by first | with_reducible assumption | assumption) (news_of_mem N9 fun p hp => by simp [hp])
  · rename (_ ∈ List.map strOf xs0) => hm
    rename News h₀ L _ _ => N9
    exact hQ _ _ _ (Or.inr ⟨rfl, fun h => by have := of_decide_eq_false h.2.1; exact this hm⟩) (by first | with_reducible assumption | assumption) (news_of_mem N9 fun p hp => by simp [hp])
  · rename (¬ Txt.item v (v.length - 1) ∈ List.map strOf xs0) => hm1
    rename (Txt.item v (v.length - 2) ∈ List.map strOf xs0) => hm2
    rename LgS ws_stays v _ => hl
    rename News h₀ L _ _ => N9
    refine hQ _ _ _ ?_ (by first | with_reducible assumption | assumption) (news_of_mem N9 fun p hp => by simp [hp])
    rename Str => e2
    by_cases he : e2 = Str.ofString ""
    · subst he
      exact Or.inl ⟨by simp, by omega, decide_eq_false hm1, decide_eq_true hm2, hl⟩
    · exact Or.inr ⟨by simp [he], fun h => hl.not_empty he h.2.2.2⟩
  · rename (¬ Txt.item v (v.length - 2) ∈ List.map strOf xs0) => hm
    rename News h₀ L _ _ => N9
    exact hQ _ _ _ (Or.inr ⟨rfl, fun h => hm (of_decide_eq_true h.2.2.1)⟩) (by first | with_reducible assumption | assumption) (news_of_mem N9 fun p hp => by simp [hp])
theorem c_etL (w : World) (v : Str) (t : Tok) (hv : v.length ≤ 1000) : FnK w 6 80 559 [.str v t] (fun K => (EtL v → K (.bool true)) ∧ (¬ EtL v → K (.bool false))) :=
  ⟨_, f_et w v t hv, fun K ⟨q1, q2⟩ r h => by
    rcases h with ⟨rfl, h⟩ | ⟨rfl, h⟩
    · exact q1 h
    · exact q2 h⟩
end
-- L0
section
open PySem PySem.W PySem.Calls PyProof.Rows PySem.Spec

/-- the first step as the law tells it -/
noncomputable def LMain (v : Str) (p : Int) (w' : Str) : Prop := ∃ e stem root, LgS ws_first (Txt.slice v (some p) none) e ∧ stem = Txt.slice v none (some (v.length - e.length)) ∧ root = Txt.slice stem none (some (stem.length - 2)) ∧
  ((e = Str.ofString "s" ∧ (((Txt.slice stem (some (stem.length - 2)) none = Str.ofString "et" ∧ EtL root) ∧ w' = root) ∨
      (¬ (Txt.slice stem (some (stem.length - 2)) none = Str.ofString "et" ∧ EtL root) ∧ ((memOf xs1 (Txt.item stem (stem.length - 1)) = true ∧ w' = stem) ∨ (memOf xs1 (Txt.item stem (stem.length - 1)) = false ∧ w' = v))))) ∨
   (e = Str.ofString "et" ∧ ((EtL stem ∧ w' = stem) ∨ (¬ EtL stem ∧ w' = v))) ∨
   (e ≠ Str.ofString "s" ∧ e ≠ Str.ofString "et" ∧ w' = stem))
noncomputable def LPair (v : Str) (p : Int) (w' : Str) : Prop := ∃ e, LgS ws_pairs (Txt.slice v (some p) none) e ∧ ((e ≠ Str.ofString "" ∧ w' = Txt.slice v none (some (v.length - 1))) ∨ (e = Str.ofString "" ∧ w' = v))
noncomputable def LThird (v : Str) (p : Int) (w' : Str) : Prop := ∃ e stem, LgS ws_third (Txt.slice v (some p) none) e ∧ stem = Txt.slice v none (some (v.length - e.length)) ∧
  (((e = Str.ofString "lig" ∨ e = Str.ofString "ig" ∨ e = Str.ofString "els") ∧ w' = stem) ∨
   (e = Str.ofString "öst" ∧ ((memOf xs2 (Txt.item stem (stem.length - 1)) = true ∧ w' = stem ++ Str.ofString "ös") ∨ (memOf xs2 (Txt.item stem (stem.length - 1)) = false ∧ w' = v))) ∨
   (e = Str.ofString "fullt" ∧ w' = stem ++ Str.ofString "full") ∨
   (e ≠ Str.ofString "lig" ∧ e ≠ Str.ofString "ig" ∧ e ≠ Str.ofString "els" ∧ e ≠ Str.ofString "öst" ∧ e ≠ Str.ofString "fullt" ∧ w' = v))
/-- what _law_stem answers -/
noncomputable def LawR (v r : Str) : Prop := ∃ p w1 w2, Region v p ∧ LMain v p w1 ∧ LPair w1 p w2 ∧ LThird w2 p r

theorem regB {cur : Str} {p : Int} (h : Region cur p) : 0 ≤ p ∧ p ≤ cur.length ∧ (p = cur.length ∨ 3 ≤ p) := by
  rcases h with ⟨_, h⟩ | ⟨_, _, h⟩ | ⟨h0, j, _, _, _, _, h⟩
  · lia
  · lia
  · rcases h with ⟨_, h⟩ | ⟨k, h1, h2, _, _, h⟩
    · lia
    · split at h <;> lia
theorem slU {v : Str} {p : Int} (h0 : 0 ≤ p) (h1 : p ≤ v.length) : (Txt.slice v none (some p)).cps.toList = v.cps.toList.take p.toNat := by
  have hs : v.length = v.cps.size := rfl
  have e2 := beq_iff_eq.mp (slice_closes_to (x := v) (j := p) ⟨h0, by rw [Array.length_toList]; lia⟩)
  rw [e2]
  simp
theorem slF {v : Str} {p : Int} (h0 : 0 ≤ p) (h1 : p ≤ v.length) : (Txt.slice v (some p) none).cps.toList = v.cps.toList.drop p.toNat := by
  have hs : v.length = v.cps.size := rfl
  have e2 := beq_iff_eq.mp (slice_closes_from (x := v) (i := p) ⟨by omega, by rw [Array.length_toList]; omega⟩)
  rw [e2]
  show List.take _ _ = _
  exact List.take_of_length_le (by rw [List.length_drop, Array.length_toList]; omega)
theorem len_list (v : Str) : v.cps.toList.length = v.length := by simp [Str.length]
theorem len_upto {v : Str} {p : Int} (h0 : 0 ≤ p) (h1 : p ≤ v.length) : ((Txt.slice v none (some p)).length : Int) = p := by
  rw [← len_list, slU h0 h1, List.length_take, len_list]; lia
theorem len_from {v : Str} {p : Int} (h0 : 0 ≤ p) (h1 : p ≤ v.length) : ((Txt.slice v (some p) none).length : Int) = v.length - p := by
  rw [← len_list, slF h0 h1, List.length_drop, len_list]; lia
theorem slice_big {v : Str} {p : Int} (h : (v.length : Int) ≤ p) : (Txt.slice v (some p) none).length = 0 := by
  by_cases he : (v.length : Int) = p
  · have := len_from (v := v) (p := p) (by lia) (by lia); lia
  have e : Txt.slice v (some p) none = Txt.slice v (some (v.length : Int)) none := by
    unfold Txt.slice
    have : Builtin.Str.strSliceIndices (some p) none 1 v.length = Builtin.Str.strSliceIndices (some (v.length : Int)) none 1 v.length := by
      have e1 : ¬ p < 0 := by lia
      have e2 : ¬ (v.length : Int) < 0 := by lia
      have e3 : min p (v.length : Int) = v.length := by lia
      simp [Builtin.Str.strSliceIndices, e1, e2, e3]
    rw [this]
  rw [e]
  have := len_from (v := v) (p := v.length) (by lia) (by lia); lia
theorem LgS.len {ws : List Str} {v e : Str} (h : LgS ws v e) : e.length ≤ 7 ∧ e.length ≤ v.length := by
  rcases h with ⟨z, h1, h2, h3, h4, _⟩ | ⟨h, _⟩
  · have := len_sl h1 h3
    rw [← h4] at this
    lia
  · rw [h, emp_len]; lia
end
-- W20
section
open PySem PySem.W PySem.Calls PyProof.Rows PySem.Spec

theorem unstop20 {P : Prop} (h : P) : Stop P := by unfold Stop; exact h
theorem stopped20 {P : Prop} (h : Stop P) : P := by unfold Stop at h; exact h
/-- what a step of the law leaves -/
inductive Mid20 (g1 : Heap) (L1 : Addr) (news : List (Addr × Obj)) (sg : Array GenState) (sd : Drawn) (so : OsState) (p : Int) (R : Str → Prop) (n : Nat) (f : Flow) (s' : Shared) : Prop
  | mk (h' : Heap) (tk' : Tok) (m' : Str → Option Value) (w' : Str) (wt ft : Tok) (e1 : f = .next) (e2 : s' = ⟨h', sg, sd, tk', so⟩) (F : Fr g1 L1 h' m') (N : News g1 L1 h' news)
    (j1 : m' (Str.ofString "word") = some (.str w' wt)) (j2 : m' (Str.ofString "first") = some (.int p ft)) (hR : R w') (hn : w'.length ≤ n)
theorem c_longestL (w : World) (v : Str) (t : Tok) (hv : v.length ≤ 1000) (a : Addr) (ws : List Str) (hW : ListAt w.params a ws) : FnK w 4 60 552 [.str v t, .ref a] (fun K => ∀ e t, LgS ws v e → (e.length ≤ 7 ∧ e.length ≤ v.length) → K (.str e t)) :=
  ⟨_, f_longest w v t hv a ws hW, fun K q r ⟨e, t, h, h2⟩ => h ▸ q e t h2 h2.len⟩
set_option hygiene false in
local macro_rules | `(tactic| walk_at "call ref") => `(tactic| (k_here; k_dflt (apply FnK.use (c_region _ _ _ ?hv); walk_at "gF"; (case hv => first | with_reducible assumption | omega | assumption); k_whole); walk_at "oF"))
set_option hygiene false in
local macro_rules | `(tactic| walk_at "call ref") => `(tactic| (k_here; k_dflt (apply FnK.use (c_etL _ _ _ ?hv); walk_at "gF"; (case hv => first | exact Nat.le_trans (Txt.slice_le _ _ _) (by omega) | exact Nat.le_trans (Txt.slice_le _ _ _) (Nat.le_trans (Txt.slice_le _ _ _) (by omega))); k_whole); walk_at "oF"))
set_option hygiene false in
local macro_rules | `(tactic| walk_at "call ref") => `(tactic| (k_here; k_dflt (apply FnK.use (c_longestL _ _ _ ?hv _ _ ?hW); walk_at "gF"; (case hW => first | exact at_pairs _ | exact at_third _); (case hv => exact Nat.le_trans (Txt.slice_le _ _ _) (by omega)); k_whole); walk_at "oF"))
local macro_rules | `(tactic| walk_at "m_stepsT") => `(tactic| repeat' ((fail_if_success (with_reducible show Stop _)); (fail_if_success (with_reducible show ite _ _ _)); first | (k_unfold; (try dsimp only)) | (dsimp only; (with_reducible show Stop _)) | walk1 | (dsimp only; walk1) | (leave1; (try dsimp only)) | fail "no step"))
local macro_rules | `(tactic| walk_at "m_stepsI") => `(tactic| repeat' ((fail_if_success (with_reducible show Stop _)); (fail_if_success (with_reducible show wpAny _ _ (exec (Stmt.If _ _ _ _) _) _ _ _)); first | (k_unfold; (try dsimp only)) | (dsimp only; (with_reducible show Stop _)) | walk1 | (dsimp only; walk1) | (leave1; (try dsimp only)) | fail "no step"))

set_option maxHeartbeats 8000000 in
theorem f_stem (w : World) (v : Str) (t : Tok) (hv : v.length ≤ 1000) : FnC w 10 120 566 [.str v t] (fun r => ∃ e t, r = .str e t ∧ LawR v e) := by
  constructor
  intro mean mg mb A₀ A base h₀ env outer L m s news Q E F B X N T hh hA hf hk hd hu hQ
  obtain ⟨sh, sg, sd, st, so⟩ := s
  dsimp only at F N hQ
  walk_at "m_enter"
  rename_i g1 L1 hE FGE FE NE BE XE TE
  walk_at "m_stepsI"
  rename Region _ _ => fR
  rename Int => p
  have hpB := regB fR
  have hsl := len_from (v := v) (p := p) hpB.1 hpB.2.1
  (k_here; (with_reducible show wpAny _ _ (call (Value.ref 552) _) _ _ _); refine' FnC.run (f_longest _ _ _ ?hv _ _ ?hW) ?F ?B ?X ?N ?T ?hh ?hA ?hf ?hk ?hd ?hu ?_; (case hW => first | exact at_first _ | exact at_pairs _ | exact at_third _); (case hv => exact Nat.le_trans (Txt.slice_le _ _ _) (by omega)); (case F => k_asm); (case B => k_asm); (case X => k_asm); (case N => k_asm); (case T => k_asm); (case hh => first | with_reducible assumption | exact handled_deeper (by with_reducible assumption) | rfl | assumption); (case hA => exact Around.frames_deeper (by first | with_reducible assumption | assumption)); (case hf => exact rfl); (case hk => exact rfl); (case hd => (simp only [depth_deeper, depth_in1]; omega)); (case hu => (simp only [units_deeper, units_in1]; omega)))
  rintro _ h2 tk2 ⟨e, et, rfl, fL⟩ F2 N2
  have heB := fL.len
  walk_at "m_stepsI"
  have hst := len_upto (v := v) (p := v.length - e.length) (by omega) (by omega)
  refine wpAny_mono (Q := fun f s' => Stop (Mid20 g1 L1 news sg sd so p (LMain v p) v.length f s')) (E := fun _ _ => False) ?if1 ?rest (fun _ _ z => z.elim)
  case if1 =>
    walk_at "m_stepsT"
    by_cases hes : (e == Str.ofString "s") = true
    · rw [if_pos hes]
      have hes' := beq_iff_eq.mp hes
      have hle : e.length = 1 := by rw [hes']; decide +kernel
      have hs3 : (3 : Int) ≤ (Txt.slice v none (some ((v.length : Int) - e.length))).length := by omega
      walk_at "m_steps"
      · rename EtL _ => fE
        rename ((_ == Str.ofString "et") = true) => hEt
        rename News g1 L1 _ _ => N9
        rename Fr g1 L1 _ _ => F9
        exact unstop20 ⟨_, _, _, _, _, _, rfl, rfl, F9, (news_of_mem N9 fun p hp => by simp [hp]), rfl, rfl, ⟨e, _, _, fL, rfl, rfl, Or.inl ⟨hes', Or.inl ⟨⟨beq_iff_eq.mp hEt, fE⟩, rfl⟩⟩⟩, (Nat.le_trans (Txt.slice_le _ _ _) (Txt.slice_le _ _ _))⟩
      · rename ¬ EtL _ => fE
        rename (_ ∈ List.map strOf xs1) => hm
        rename News g1 L1 _ _ => N9
        rename Fr g1 L1 _ _ => F9
        exact unstop20 ⟨_, _, _, _, _, _, rfl, rfl, F9, (news_of_mem N9 fun p hp => by simp [hp]), rfl, rfl, ⟨e, _, _, fL, rfl, rfl, Or.inl ⟨hes', Or.inr ⟨fun h => fE h.2, Or.inl ⟨decide_eq_true hm, rfl⟩⟩⟩⟩, (Txt.slice_le _ _ _)⟩
      · rename ¬ EtL _ => fE
        rename (¬ _ ∈ List.map strOf xs1) => hm
        rename News g1 L1 _ _ => N9
        rename Fr g1 L1 _ _ => F9
        exact unstop20 ⟨_, _, _, _, _, _, rfl, rfl, F9, (news_of_mem N9 fun p hp => by simp [hp]), rfl, rfl, ⟨e, _, _, fL, rfl, rfl, Or.inl ⟨hes', Or.inr ⟨fun h => fE h.2, Or.inr ⟨decide_eq_false hm, rfl⟩⟩⟩⟩, (Nat.le_refl _)⟩
      · rename ((_ == Str.ofString "et") = false) => hEt
        rename (_ ∈ List.map strOf xs1) => hm
        rename News g1 L1 _ _ => N9
        rename Fr g1 L1 _ _ => F9
        exact unstop20 ⟨_, _, _, _, _, _, rfl, rfl, F9, (news_of_mem N9 fun p hp => by simp [hp]), rfl, rfl, ⟨e, _, _, fL, rfl, rfl, Or.inl ⟨hes', Or.inr ⟨fun h => beq_eq_false_iff_ne.mp hEt h.1, Or.inl ⟨decide_eq_true hm, rfl⟩⟩⟩⟩, (Txt.slice_le _ _ _)⟩
      · rename ((_ == Str.ofString "et") = false) => hEt
        rename (¬ _ ∈ List.map strOf xs1) => hm
        rename News g1 L1 _ _ => N9
        rename Fr g1 L1 _ _ => F9
        exact unstop20 ⟨_, _, _, _, _, _, rfl, rfl, F9, (news_of_mem N9 fun p hp => by simp [hp]), rfl, rfl, ⟨e, _, _, fL, rfl, rfl, Or.inl ⟨hes', Or.inr ⟨fun h => beq_eq_false_iff_ne.mp hEt h.1, Or.inr ⟨decide_eq_false hm, rfl⟩⟩⟩⟩, (Nat.le_refl _)⟩
    rw [if_neg hes]
    have hes' : e ≠ Str.ofString "s" := fun h => hes (beq_iff_eq.mpr h)
    walk_at "m_steps"
    · rename EtL _ => fE
      rename ((_ == Str.ofString "et") = true) => hEt
      rename News g1 L1 _ _ => N9
      rename Fr g1 L1 _ _ => F9
      exact unstop20 ⟨_, _, _, _, _, _, rfl, rfl, F9, (news_of_mem N9 fun p hp => by simp [hp]), rfl, rfl, ⟨e, _, _, fL, rfl, rfl, Or.inr (Or.inl ⟨beq_iff_eq.mp hEt, Or.inl ⟨fE, rfl⟩⟩)⟩, (Txt.slice_le _ _ _)⟩
    · rename ¬ EtL _ => fE
      rename ((_ == Str.ofString "et") = true) => hEt
      rename News g1 L1 _ _ => N9
      rename Fr g1 L1 _ _ => F9
      exact unstop20 ⟨_, _, _, _, _, _, rfl, rfl, F9, (news_of_mem N9 fun p hp => by simp [hp]), rfl, rfl, ⟨e, _, _, fL, rfl, rfl, Or.inr (Or.inl ⟨beq_iff_eq.mp hEt, Or.inr ⟨fE, rfl⟩⟩)⟩, (Nat.le_refl _)⟩
    · rename ((_ == Str.ofString "et") = false) => hEt
      rename News g1 L1 _ _ => N9
      rename Fr g1 L1 _ _ => F9
      exact unstop20 ⟨_, _, _, _, _, _, rfl, rfl, F9, (news_of_mem N9 fun p hp => by simp [hp]), rfl, rfl, ⟨e, _, _, fL, rfl, rfl, Or.inr (Or.inr ⟨hes', beq_eq_false_iff_ne.mp hEt, rfl⟩)⟩, (Txt.slice_le _ _ _)⟩
  case rest =>
    rintro f s' hS
    obtain ⟨h3, tk3, m3, w3, wt3, ft3, rfl, rfl, F3, N3, j1, j2, hM, hwl⟩ := stopped20 hS
    clear hS
    dsimp only
    walk_at "m_stepsI"
    refine wpAny_mono (Q := fun f s' => Stop (Mid20 g1 L1 news sg sd so p (LPair w3 p) v.length f s')) (E := fun _ _ => False) ?if2 ?rest2 (fun _ _ z => z.elim)
    case if2 =>
      walk_at "m_steps"
      · rename LgS ws_pairs _ _ => fP
        rename ((_ != Str.ofString "") = true) => hne
        rename News g1 L1 _ _ => N9
        rename Fr g1 L1 _ _ => F9
        exact unstop20 ⟨_, _, _, _, _, _, rfl, rfl, F9, (news_of_mem N9 fun p hp => by simp [hp]), rfl, by first | exact j2 | exact rfl, ⟨_, fP, Or.inl ⟨by simpa using hne, rfl⟩⟩, Nat.le_trans (Txt.slice_le _ _ _) hwl⟩
      · rename LgS ws_pairs _ _ => fP
        rename ((_ != Str.ofString "") = false) => hne
        rename Fr g1 L1 _ _ => F9
        rename News g1 L1 _ _ => N9
        exact unstop20 ⟨_, _, _, _, _, _, rfl, rfl, F9, N9, j1, j2, ⟨_, fP, Or.inr ⟨by simpa using hne, rfl⟩⟩, hwl⟩
    case rest2 =>
      rintro f s' hS
      obtain ⟨h4, tk4, m4, w4, wt4, ft4, rfl, rfl, F4, N4, i1, i2, hP, hwl4⟩ := stopped20 hS
      clear hS F3 N3
      dsimp only
      walk_at "m_stepsT"
      rename LgS ws_third _ _ => fT
      rename Str => e3
      have f3 := fT.len
      have hsl4 := Txt.slice_le w4 (some p) none
      have hst4 := len_upto (v := w4) (p := w4.length - e3.length) (by omega) (by omega)
      by_cases hin : ([Str.ofString "lig", Str.ofString "ig", Str.ofString "els"].any fun x => x == e3) = true
      · rw [if_pos hin]
        walk_at "m_steps"
        rename News h₀ L _ _ => N9
        rename Fr h₀ L _ _ => F9
        refine hQ _ _ _ ⟨_, _, rfl, p, w3, w4, fR, hM, hP, e3, _, fT, rfl, Or.inl ⟨?_, rfl⟩⟩ F9 (news_of_mem N9 fun p hp => by simp [hp])
        obtain ⟨x, hx, hxe⟩ := List.any_eq_true.mp hin
        have hxe := beq_iff_eq.mp hxe
        subst hxe
        simpa only [List.mem_cons, List.not_mem_nil, or_false] using hx
      rw [if_neg hin]
      have hin' : e3 ≠ Str.ofString "lig" ∧ e3 ≠ Str.ofString "ig" ∧ e3 ≠ Str.ofString "els" := ⟨fun h => hin (by simp [h]), fun h => hin (by simp [h]), fun h => hin (by simp [h])⟩
      walk_at "m_stepsT"
      by_cases hos : (e3 == Str.ofString "öst") = true
      · rw [if_pos hos]
        have hos' := beq_iff_eq.mp hos
        have hl3 : e3.length = 3 := by rw [hos']; decide +kernel
        have hs1 : (1 : Int) ≤ (Txt.slice w4 none (some ((w4.length : Int) - e3.length))).length := by
          rcases Int.lt_or_le p w4.length with h | h
          · have := len_from (v := w4) (p := p) (by omega) (by omega)
            omega
          · have := slice_big (v := w4) (p := p) h
            omega
        walk_at "m_steps"
        · rename (_ ∈ List.map strOf xs2) => hm
          rename News h₀ L _ _ => N9
          rename Fr h₀ L _ _ => F9
          exact hQ _ _ _ ⟨_, _, rfl, p, w3, w4, fR, hM, hP, e3, _, fT, rfl, Or.inr (Or.inl ⟨hos', Or.inl ⟨decide_eq_true hm, rfl⟩⟩)⟩ F9 (news_of_mem N9 fun p hp => by simp [hp])
        · rename (¬ _ ∈ List.map strOf xs2) => hm
          rename News h₀ L _ _ => N9
          rename Fr h₀ L _ _ => F9
          exact hQ _ _ _ ⟨_, _, rfl, p, w3, w4, fR, hM, hP, e3, _, fT, rfl, Or.inr (Or.inl ⟨hos', Or.inr ⟨decide_eq_false hm, rfl⟩⟩)⟩ F9 (news_of_mem N9 fun p hp => by simp [hp])
      rw [if_neg hos]
      have hos' : e3 ≠ Str.ofString "öst" := fun h => hos (beq_iff_eq.mpr h)
      walk_at "m_steps"
      · rename ((_ == Str.ofString "fullt") = true) => hf
        rename News h₀ L _ _ => N9
        rename Fr h₀ L _ _ => F9
        exact hQ _ _ _ ⟨_, _, rfl, p, w3, w4, fR, hM, hP, e3, _, fT, rfl, Or.inr (Or.inr (Or.inl ⟨beq_iff_eq.mp hf, rfl⟩))⟩ F9 (news_of_mem N9 fun p hp => by simp [hp])
      · rename ((_ == Str.ofString "fullt") = false) => hf
        rename News h₀ L _ _ => N9
        rename Fr h₀ L _ _ => F9
        exact hQ _ _ _ ⟨_, _, rfl, p, w3, w4, fR, hM, hP, e3, _, fT, rfl, Or.inr (Or.inr (Or.inr ⟨hin'.1, hin'.2.1, hin'.2.2, hos', beq_eq_false_iff_ne.mp hf, rfl⟩))⟩ F9 (news_of_mem N9 fun p hp => by simp [hp])
theorem c_lawStem (w : World) (v : Str) (t : Tok) (hv : v.length ≤ 1000) : FnK w 10 120 566 [.str v t] (fun K => ∀ e t, LawR v e → K (.str e t)) :=
  ⟨_, f_stem w v t hv, fun K q r ⟨e, t, h, h2⟩ => h ▸ q e t h2⟩
end
end
end
section
open PySem PySem.W PySem.Calls PyProof.Rows PySem.Spec
local macro_rules | `(tactic| k_in) => `(tactic| first | exact Frag.In.keeps (by k_asm) (Fr.keep (by k_asm)) | assumption)
-- W21
section
open PySem PySem.W PySem.Calls PyProof.Rows PySem.Spec

/-- the way out of a def with cells that may have caught, called by the law -/
noncomputable def LeaveC (h₀ : Heap) (L : Addr) (m : Str → Option Value) (fs : List Addr) (g : Heap) (R : Result → Shared → Prop) (v : Value) (s' : Shared) : Prop :=
  ∃ g' L' m' news', KtsTurn fs g g' ∧ Fr g' L' s'.heap m' ∧ News g' L' s'.heap news' ∧ (Fr h₀ L s'.heap m → News h₀ L s'.heap news' → R (.ok (.ret v)) s')
theorem leaveC_ {h₀ g g' : Heap} {L L' : Addr} {m m' : Str → Option Value} {fs : List Addr} {news' : List (Addr × Obj)} {R : Result → Shared → Prop} {v : Value} {s' : Shared}
    (T : KtsTurn fs g g') (F' : Fr g' L' s'.heap m') (N' : News g' L' s'.heap news') (k : Fr h₀ L s'.heap m → News h₀ L s'.heap news' → R (.ok (.ret v)) s') : LeaveC h₀ L m fs g R v s' := ⟨g', L', m', news', T, F', N', k⟩
section
variable {prog : Program} {w : World} {A₀ A : Around} {s : Shared} {base h₀ : Heap} {L : Addr} {m : Str → Option Value} {env : Env} {news : List (Addr × Obj)} {P : Params} {mean : ExcName → Option Value} {mg mb : Str → Option Value}
    {R : Result → Shared → Prop} {name qual : Str} {params : Arguments} {body : List Stmt} {scope : Scope} {dV kV doc pm cdv ct oc : Value} {an od : Option Addr} {osl : Array (Option Value)} {f : Addr} {args : Args} {binds : List (Str × Value)}
theorem code_defCT (B : Below A₀ base [] h₀) (F : Fr h₀ L s.heap m) (X₀ : (KF P).In h₀) (N : News h₀ L s.heap news) (T : Top vq (looseW vq vloose) mean mg mb h₀)
    (hA : A.frames = some [env]) (hf : env.frame = some L) (hke : env.scope.kind = .function)
    (ho : (KF P).lookup f = some ⟨oc, od, .func (fnOf name qual params body scope dV kV doc pm an cdv ct), osl⟩) (hcd : codeIn (KF P) cdv qual = true) (hroom : A.depth < recursionLimit)
    (hbind : BindsTo s (fnOf name qual params body scope dV kV doc pm an cdv ct) args binds) (hkind : (binds.all fun y => scope.names.lookup y.1 == some .local || scope.names.lookup y.1 == some .cell) = true)
    (hnd : ((cellsFrom 0 scope.names []).map (·.1)).Nodup)
    (h : ∀ g L' h₁ tk cells, Fr h₀ L g m → Fr g L' h₁ (bindL (envOfC qual scope L' f cdv).kindOf binds fun _ => none) → News g L' h₁ (cells ++ news) →
      CellsAre (bindC (envOfC qual scope L' f cdv).kindOf binds fun _ => none) (cellsFrom (L' + 1) scope.names []) cells → Below A base [env] g → (KF P).In g → Top vq (looseW vq vloose) mean mg mb g → KtsDicts (frs [env]) g → (∀ p ∈ news, p.1 < L') →
      wpAny (model prog w) (A.deeper (envOfC qual scope L' f cdv)) (execs body (envOfC qual scope L' f cdv))
        (fun fl s' => LeaveC h₀ L m (frs [env]) g R (match fl with | .ret v => v | _ => .none) s')
        (fun e s' => wpAny (model prog w) (A.deeper (envOfC qual scope L' f cdv)) (leaving (envOfC qual scope L' f cdv) e) (fun _ s'' => R (.error e) s'') (fun e' s'' => R (.error e') s'') s')
        { s with heap := h₁, toks := tk })
    (hco : scope.isCoroutine = false) (hgen : scope.isGenerator = false) (hk : scope.kind = .function) : codeAny (model prog w) A (.call (.ref f) args) R s := by
  have X := X₀.keeps F.keep
  obtain ⟨FG, BG, st, _⟩ := groundX (R := R) B F N hA hf hke
  refine codeAny_call_function hroom (X _ _ ho) rfl hco hgen rfl (codeRec_of X hcd) (hbind _ _ _ _ ?_)
  refine wpAny_newFunctionEnv_cells hk (kindsX hkind _) fun env' he s' x => ?_
  subst he
  refine ⟨(T.nolimit.keeps F.keep).keeps x.toInCall.keep, codeAny_func ?_⟩
  obtain ⟨h₁, tk, rfl, _⟩ := x.done
  have hk₁ := x.toInCall.keep
  obtain ⟨oL, es, ep, hLg, hLd, hLk, hLf⟩ := FG.ns
  have nL₀ : h₀.get? L = none := kts_self F
  obtain ⟨cells, NC, Y⟩ := Cl.news (h₀ := s.heap) (Nat.le_refl _) fun n c hm => ⟨x.cell n c (lookup_of_mem_nodup (cellsFrom_names scope.names 0 (s.heap.objs.size + 1) [] [] rfl ▸ hnd) hm), x.above n c hm⟩
  refine wpAny_mono (h _ s.heap.objs.size h₁ tk cells FG ⟨x.toInCall.ns, fun b o e => hk₁ b o (of_hideAll _ e), Nat.le_of_eq (hideAll_size _ _)⟩ (fun p hp => ?_) Y BG (X₀.keeps st) (T.keeps st) (fun b hb => ?_) (fun p hp => Heap.lt_size (N p hp).1)) (fun fl s' hl => ?_) fun _ _ y => y
  · rcases List.mem_append.mp hp with hp | hp
    · refine ⟨(NC p hp).1, (NC p hp).2.1, ?_⟩
      cases q : (hideAll s.heap (news.map (·.1))).get? p.1 with
      | none => rfl
      | some o => have := of_hideAll _ q; rw [(NC p hp).2.2] at this; cases this
    · exact ⟨hk₁ _ _ (N p hp).1, Nat.ne_of_lt (Heap.lt_size (N p hp).1), hideAll_none _ (List.mem_map_of_mem hp)⟩
  · rcases frs_mem hf hb with rfl | hb
    · exact ⟨oL, es, ep, hLg, hLd⟩
    · cases hb
  · obtain ⟨g', L', m', news', T', F', N', k⟩ := hl
    obtain ⟨sl, hs⟩ := T'.up hLg
    refine k ⟨⟨_, es, ep, F'.keep _ _ hs, hLd, hLk, hLf⟩, fun b o e => F'.keep b o (T'.other b o (st b o e) (fun q => ?_)), F.above⟩ fun p hp => ⟨(N' p hp).1, fun q => ?_, ?_⟩
    · rcases frs_mem hf q with z | z
      · rw [z, nL₀] at e; cases e
      · cases z
    · have := (N' p hp).2.2; rw [q, hs] at this; cases this
    · cases q : h₀.get? p.1 with
      | none => rfl
      | some o =>
        obtain ⟨sl', hs'⟩ := T'.up (st _ _ q)
        have := (N' p hp).2.2
        rw [hs'] at this
        cases this
end
end
-- P3
section
open PySem PySem.W PySem.Calls PyProof.Rows PySem.Spec

theorem str_eq {a b : Str} (h : a.cps.toList = b.cps.toList) : a = b := Str.ext' (Array.toList_inj.mp h)
theorem suf_eq {z y : Str} (hl : y.length ≤ z.length) : Txt.slice z (some (z.length - y.length)) none = y ↔ y.cps.toList <:+ z.cps.toList := by
  have e := slF (v := z) (p := z.length - y.length) (by lia) (by lia)
  constructor
  · intro h
    rw [← h, e]
    exact List.drop_suffix _ _
  · intro h
    refine str_eq ?_
    rw [e, List.suffix_iff_eq_drop.mp h, len_list, len_list]
    congr 1
    lia
/-- a table and the law's list tell the same words -/
structure TW (n : Nat) (K : Nat → Str) (ws : List Str) : Prop where
  onto : ∀ y ∈ ws, ∃ k, k < n ∧ K k = y
  mem : ∀ k, k < n → K k ∈ ws
  len : ∀ k, k < n → 1 ≤ (K k).length ∧ (K k).length ≤ 7
theorem hit_lg {n : Nat} {K : Nat → Str} {ws : List Str} {z cur e : Str} {lb c : Int} {k : Nat} (T : TW n K ws) (hz : z.cps.toList.reverse = revOf cur lb c) (h : Hit n K cur lb c k) (g : LgS ws z e) : e = K k := by
  obtain ⟨hk, h1, h2⟩ := h
  rw [← hz] at h1 h2
  have hs : (K k).cps.toList <:+ z.cps.toList := List.reverse_prefix.mp h1
  have hl : (K k).length ≤ z.length := by have := hs.length_le; rwa [len_list, len_list] at this
  have hT := T.len k hk
  have e1 := (suf_eq hl).mpr hs
  have hin : ws.any (· == K k) = true := List.any_eq_true.mpr ⟨_, T.mem k hk, by simp⟩
  rcases g with ⟨s, s1, s2, s3, s4, s5, s6⟩ | ⟨_, g⟩
  · obtain ⟨y, hy, hye⟩ := List.any_eq_true.mp s5
    have hye := beq_iff_eq.mp hye
    obtain ⟨k', hk', rfl⟩ := T.onto y hy
    have hel : ((K k').length : Int) = s := by rw [hye, s4]; exact len_sl s1 s3
    have hse : (K k').cps.toList <:+ z.cps.toList := by rw [hye, s4, slF (by lia) (by lia)]; exact List.drop_suffix _ _
    have h3 := h2 k' hk' (List.reverse_prefix.mpr hse)
    rw [len_rk, len_rk] at h3
    have h4 : s = (K k).length := by
      rcases Int.lt_or_le s (K k).length with h5 | h5
      · have := s6 (K k).length h5 (by lia) (by lia)
        rw [e1, hin] at this
        cases this
      · lia
    rw [s4, h4]; exact e1
  · have := g (K k).length (by lia) (by lia) (by lia)
    rw [e1, hin] at this
    cases this
theorem nohit_lg {n : Nat} {K : Nat → Str} {ws : List Str} {z cur e : Str} {lb c : Int} (T : TW n K ws) (hz : z.cps.toList.reverse = revOf cur lb c) (h : NoHit n K cur lb c) (g : LgS ws z e) : e = Str.ofString "" := by
  unfold NoHit at h
  rw [← hz] at h
  rcases g with ⟨s, s1, s2, s3, s4, s5, s6⟩ | ⟨g, _⟩
  · exfalso
    obtain ⟨y, hy, hye⟩ := List.any_eq_true.mp s5
    have hye := beq_iff_eq.mp hye
    obtain ⟨k', hk', rfl⟩ := T.onto y hy
    have hse : (K k').cps.toList <:+ z.cps.toList := by rw [hye, s4, slF (by lia) (by lia)]; exact List.drop_suffix _ _
    exact h k' hk' (List.reverse_prefix.mpr hse)
  · exact g
theorem lg_nohit {n : Nat} {K : Nat → Str} {ws : List Str} {z cur : Str} {lb c : Int} (T : TW n K ws) (hz : z.cps.toList.reverse = revOf cur lb c) (g : LgS ws z (Str.ofString "")) : NoHit n K cur lb c := by
  intro k hk h1
  rw [← hz] at h1
  have hs : (K k).cps.toList <:+ z.cps.toList := List.reverse_prefix.mp h1
  have hl : (K k).length ≤ z.length := by have := hs.length_le; rwa [len_list, len_list] at this
  have hT := T.len k hk
  have e1 := (suf_eq hl).mpr hs
  have hin : ws.any (· == K k) = true := List.any_eq_true.mpr ⟨_, T.mem k hk, by simp⟩
  have := g.empty (K k).length (by lia) (by lia) (by lia)
  rw [e1, hin] at this
  cases this
theorem nohit_empty {n : Nat} {K : Nat → Str} {ws : List Str} {z cur : Str} {lb c : Int} (T : TW n K ws) (hz : z.cps.toList.reverse = revOf cur lb c) (h : NoHit n K cur lb c) : LgS ws z (Str.ofString "") := by
  refine Or.inr ⟨rfl, fun s s1 s2 s3 => ?_⟩
  cases hb : ws.any (· == Txt.slice z (some (z.length - s)) none) with
  | false => rfl
  | true =>
    exfalso
    unfold NoHit at h
    rw [← hz] at h
    obtain ⟨y, hy, hye⟩ := List.any_eq_true.mp hb
    have hye := beq_iff_eq.mp hye
    obtain ⟨k', hk', rfl⟩ := T.onto y hy
    have hse : (K k').cps.toList <:+ z.cps.toList := by rw [hye, slF (by lia) (by lia)]; exact List.drop_suffix _ _
    exact h k' hk' (List.reverse_prefix.mpr hse)
theorem tw0 : TW 21 kK0 ws_stays := ⟨by decide +kernel, by decide +kernel, by decide +kernel⟩
theorem tw1 : TW 38 kK1 ws_first := ⟨by decide +kernel, by decide +kernel, by decide +kernel⟩
theorem tw2 : TW 7 kK2 ws_pairs := ⟨by decide +kernel, by decide +kernel, by decide +kernel⟩
theorem tw3 : TW 5 kK3 ws_third := ⟨by decide +kernel, by decide +kernel, by decide +kernel⟩

theorem rev_slice {cur : Str} {p : Int} (h0 : 0 ≤ p) (h1 : p ≤ cur.length) : (Txt.slice cur (some p) none).cps.toList.reverse = revOf cur p cur.length := by
  unfold revOf
  rw [slF h0 h1, List.take_of_length_le (by rw [len_list]; lia)]
theorem rev_upto {cur stem : Str} {c : Int} (hs : stem.cps.toList = cur.cps.toList.take c.toNat) : stem.cps.toList.reverse = revOf cur 0 c := by
  unfold revOf
  rw [hs]
  rfl
theorem item_take {cur stem : Str} {c i : Int} (hs : stem.cps.toList = cur.cps.toList.take c.toNat) (h1 : c ≤ cur.length) (hi : 0 ≤ i) (hc : i < c) : Txt.item stem i = Txt.item cur i := by
  have hl : (stem.length : Int) = c := by rw [← len_list, hs, List.length_take, len_list]; lia
  have key : ∀ x : Str, i < x.length → Txt.charAt x i = x.cps.toList[i.toNat]? := fun x hx => by
    unfold Txt.charAt seqIndex?
    simp only [show ¬ i < 0 by lia, if_false, decide_eq_true hi, Bool.true_and, decide_eq_true hx, if_true, Option.bind_some]
    rw [Array.getElem?_toList]
  unfold Txt.item
  rw [key stem (by lia), key cur (by lia), hs, List.getElem?_take_of_lt (by lia)]
theorem et_iff {cur stem : Str} {c : Int} (h0 : 0 ≤ c) (h1 : c ≤ cur.length) (hs : stem.cps.toList = cur.cps.toList.take c.toNat) : EtOk cur 0 c ↔ EtL stem := by
  have hl : (stem.length : Int) = c := by rw [← len_list, hs, List.length_take, len_list]; omega
  unfold EtOk EtL
  rw [hl]
  constructor
  · rintro ⟨a, b, d, e⟩
    refine ⟨by omega, ?_, ?_, nohit_empty tw0 (rev_upto hs) e⟩
    · rw [item_take hs h1 (by omega) (by omega)]; exact b
    · rw [item_take hs h1 (by omega) (by omega)]; exact d
  · rintro ⟨a, b, d, e⟩
    refine ⟨by omega, ?_, ?_, lg_nohit tw0 (rev_upto hs) e⟩
    · rw [← item_take hs h1 (by omega) (by omega)]; exact b
    · rw [← item_take hs h1 (by omega) (by omega)]; exact d
theorem reg_uniq {v : Str} {p q : Int} (h : Region v p) (g : Region v q) : p = q := by
  have tf : ∀ {b : Bool}, b = true → b = false → False := fun a b => by rw [a] at b; cases b
  rcases h with ⟨a1, a2⟩ | ⟨a1, a2, a3⟩ | ⟨a1, j, a2, a3, a4, a5, a6⟩ <;> rcases g with ⟨b1, b2⟩ | ⟨b1, b2, b3⟩ | ⟨b1, i, b2, b3, b4, b5, b6⟩
  · lia
  · lia
  · lia
  · lia
  · lia
  · exact (tf b5 (a2 i b2 b3)).elim
  · lia
  · exact (tf a5 (b2 j a2 a3)).elim
  have hij : i = j := by
    rcases Int.lt_trichotomy i j with h | h | h
    · exact (tf b5 (a4 i b2 h)).elim
    · exact h
    · exact (tf a5 (b4 j a2 h)).elim
  subst hij
  rcases a6 with ⟨c1, c2⟩ | ⟨k, c1, c2, c3, c4, c5⟩ <;> rcases b6 with ⟨d1, d2⟩ | ⟨l, d1, d2, d3, d4, d5⟩
  · lia
  · exact (tf (c1 l d1 d2) d4).elim
  · exact (tf (d1 k c1 c2) c4).elim
  have hkl : k = l := by
    rcases Int.lt_trichotomy k l with h | h | h
    · exact (tf (d3 k c1 h) c4).elim
    · exact h
    · exact (tf (c3 l d1 h) d4).elim
  subst hkl
  lia
theorem cut_end {cur v : Str} {b : Int} (h0 : 0 ≤ b) (h1 : b ≤ cur.length) : cutS cur b cur.length v = Txt.slice cur none (some b) ++ v := by
  refine str_eq ?_
  rw [cut_list h0 h1 (by lia), List.drop_of_length_le (by rw [len_list]; lia), List.append_nil, cps_app, Array.toList_append, slU h0 h1]
theorem app_emp (x : Str) : x ++ Str.ofString "" = x := by
  refine str_eq ?_
  rw [cps_app, Array.toList_append]
  exact List.append_nil _
theorem r1of1 : ∀ k, k < 38 → kR1 k = 1 → kK1 k ≠ Str.ofString "s" ∧ kK1 k ≠ Str.ofString "et" := by decide +kernel
theorem r1of2 : ∀ k, k < 38 → kR1 k = 2 → kK1 k = Str.ofString "s" := by decide +kernel
theorem r1of3 : ∀ k, k < 38 → kR1 k = 3 → kK1 k = Str.ofString "et" := by decide +kernel
theorem ends_iff {x y : Str} (hl : y.length ≤ x.length) : Txt.endswith x y = true ↔ Txt.slice x (some (x.length - y.length)) none = y := by
  rw [suf_eq hl]
  unfold Txt.endswith
  rw [StrLaws.subAt_eq, Bool.and_eq_true, decide_eq_true_eq, beq_iff_eq, List.take_of_length_le (by rw [List.length_drop, len_list]; lia), List.suffix_iff_eq_drop, len_list, len_list]
  exact ⟨fun h => h.2.symm, fun h => ⟨by lia, h.symm⟩⟩
theorem s_len : (Str.ofString "s").length = 1 := by decide +kernel
theorem ne_s_et : Str.ofString "s" ≠ Str.ofString "et" := by decide +kernel
theorem ne_e_s : Str.ofString "" ≠ Str.ofString "s" := by decide +kernel
theorem ne_e_et : Str.ofString "" ≠ Str.ofString "et" := by decide +kernel
theorem up_all {v : Str} : Txt.slice v none (some (v.length : Int)) = v := str_eq (by rw [slU (by lia) (by lia), List.take_of_length_le (by rw [len_list]; lia)])
theorem main_det {v a b : Str} {p : Int} (hp : Region v p) (M : MainR v p a) (L : LMain v p b) : a = b := by
  have hB := regB hp
  obtain ⟨e, stem, root, g, hst, hro, L⟩ := L
  have gl := g.len
  have hfr := len_from hB.1 hB.2.1
  rcases M with ⟨h | h, rfl⟩ | ⟨_, k, hk, M⟩
  · lia
  · have he := nohit_lg tw1 (rev_slice hB.1 hB.2.1) h g
    subst he
    rw [emp_len] at hst
    have : stem = a := by rw [hst, show (a.length : Int) - ((0 : Nat) : Int) = a.length by lia, up_all]
    rcases L with ⟨h, _⟩ | ⟨h, _⟩ | ⟨_, _, h⟩
    · exact absurd h ne_e_s
    · exact absurd h ne_e_et
    · rw [h, this]
  · have he := hit_lg tw1 (rev_slice hB.1 hB.2.1) hk g
    subst he
    have hlk := tw1.len k hk.1
    have h1 : (0 : Int) ≤ v.length - (kK1 k).length := by lia
    have h2 : (v.length : Int) - (kK1 k).length ≤ v.length := by lia
    have hl := len_upto h1 h2
    rw [← hst] at hl
    have hls := slU h1 h2
    rw [← hst] at hls
    have hce := cut_end (v := Str.ofString "") h1 h2
    rw [app_emp, ← hst] at hce
    rcases M with ⟨hr, rfl⟩ | ⟨hr, M⟩ | ⟨hr, M⟩
    · have hne := r1of1 k hk.1 hr
      rcases L with ⟨h, _⟩ | ⟨h, _⟩ | ⟨_, _, h⟩
      · exact absurd h hne.1
      · exact absurd h hne.2
      · rw [h, hce]
    · have hks := r1of2 k hk.1 hr
      rw [hks, s_len] at hlk gl h1 h2 hl hls hce M
      have hL : 3 ≤ stem.length := by
        rcases hB.2.2 with h | h <;> lia
      have e0 : Txt.slice v (some 0) (some ((v.length : Int) - ((1 : Nat) : Int))) = stem := by
        refine str_eq ?_
        have hs : v.length = v.cps.size := rfl
        have e1 := beq_iff_eq.mp (slice_closes (x := v) (i := 0) (j := (v.length : Int) - ((1 : Nat) : Int)) ⟨by lia, by lia, by rw [Array.length_toList]; lia⟩)
        rw [e1, hls]
        simp
      have hro1 := slU (v := stem) (p := stem.length - 2) (by lia) (by lia)
      rw [← hro, hls, List.take_take] at hro1
      have hro2 : root.cps.toList = v.cps.toList.take ((v.length : Int) - ((1 : Nat) : Int) - 2).toNat := by
        rw [hro1, hl, Nat.min_eq_left (Int.toNat_le_toNat (by omega))]
      have hcr := cut_end (cur := v) (v := Str.ofString "") (b := (v.length : Int) - ((1 : Nat) : Int) - 2) (by lia) (by lia)
      rw [app_emp] at hcr
      have hrr : Txt.slice v none (some ((v.length : Int) - ((1 : Nat) : Int) - 2)) = root := str_eq (by rw [slU (by lia) (by lia), hro2])
      rw [hrr] at hcr
      have hE : EtS v ((v.length : Int) - ((1 : Nat) : Int)) ↔ (Txt.slice stem (some (stem.length - 2)) none = Str.ofString "et" ∧ EtL root) := by
        unfold EtS
        rw [e0, ends_iff (by rw [et_len]; lia), et_len, et_iff (by lia) (by lia) hro2]
        exact Iff.rfl
      have hI : Txt.item stem (stem.length - 1) = Txt.item v ((v.length : Int) - ((1 : Nat) : Int) - 1) := by
        rw [item_take hls h2 (by lia) (by lia), hl]
      rw [hI] at L
      rcases L with ⟨_, L⟩ | ⟨h, _⟩ | ⟨h, _⟩
      · rcases M with ⟨m1, rfl⟩ | ⟨m1, M⟩ <;> rcases L with ⟨l1, rfl⟩ | ⟨l1, L⟩
        · exact hcr
        · exact absurd (hE.mp m1) l1
        · exact absurd (hE.mpr l1) m1
        · rcases M with ⟨m2, rfl⟩ | ⟨m2, rfl⟩ <;> rcases L with ⟨l2, rfl⟩ | ⟨l2, rfl⟩
          · exact hce
          · rw [m2.2] at l2; cases l2
          · rcases m2 with m2 | m2
            · lia
            · rw [m2] at l2; cases l2
          · rfl
      · exact absurd (hks ▸ h) ne_s_et
      · exact absurd hks h
    · have hks := r1of3 k hk.1 hr
      have hE := et_iff h1 h2 hls
      rcases L with ⟨h, _⟩ | ⟨_, L⟩ | ⟨_, h, _⟩
      · exact absurd (h.symm.trans hks) ne_s_et
      · rcases M with ⟨m1, rfl⟩ | ⟨m1, rfl⟩ <;> rcases L with ⟨l1, rfl⟩ | ⟨l1, rfl⟩
        · exact hce
        · exact absurd (hE.mp m1) l1
        · exact absurd (hE.mpr l1) m1
        · rfl
      · exact absurd hks h
theorem LgS.of_nil {ws : List Str} {z e : Str} (g : LgS ws z e) (h : z.length = 0) : e = Str.ofString "" := by
  rcases g with ⟨s, s1, s2, s3, _⟩ | ⟨g, _⟩
  · lia
  · exact g
theorem k2_ne : ∀ k, k < 7 → kK2 k ≠ Str.ofString "" := by decide +kernel
theorem pair_det {v a b : Str} {p : Int} (hp : 0 ≤ p) (M : PairR v p a) (L : LPair v p b) : a = b := by
  obtain ⟨e, g, L⟩ := L
  have key : (a = v ∧ e = Str.ofString "") ∨ (a = cutS v (v.length - 1) v.length (Str.ofString "") ∧ e ≠ Str.ofString "" ∧ 1 ≤ v.length) := by
    rcases M with ⟨h | h, rfl⟩ | ⟨h, ⟨k, hk⟩, rfl⟩
    · exact Or.inl ⟨rfl, g.of_nil (slice_big (by lia))⟩
    · by_cases hc : p ≤ a.length
      · exact Or.inl ⟨rfl, nohit_lg tw2 (rev_slice hp hc) h g⟩
      · exact Or.inl ⟨rfl, g.of_nil (slice_big (by lia))⟩
    · have he := hit_lg tw2 (rev_slice hp h) hk g
      have gl := g.len
      have hf := len_from hp h
      have := tw2.len k hk.1
      rw [he] at gl
      exact Or.inr ⟨rfl, by rw [he]; exact k2_ne k hk.1, by lia⟩
  rcases key with ⟨rfl, he⟩ | ⟨rfl, he, hl⟩ <;> rcases L with ⟨l1, rfl⟩ | ⟨l1, rfl⟩
  · exact absurd he l1
  · rfl
  · rw [cut_end (by lia) (by lia), app_emp]
  · exact absurd l1 he
theorem r3of1 : ∀ k, k < 5 → kR3 k = 1 → (kK3 k = Str.ofString "lig" ∨ kK3 k = Str.ofString "ig" ∨ kK3 k = Str.ofString "els") := by decide +kernel
theorem r3of2' : ∀ k, k < 5 → kR3 k = 2 → kK3 k = Str.ofString "öst" := by decide +kernel
theorem r3of3' : ∀ k, k < 5 → kR3 k = 3 → kK3 k = Str.ofString "fullt" := by decide +kernel
theorem ne3 : Str.ofString "öst" ≠ Str.ofString "lig" ∧ Str.ofString "öst" ≠ Str.ofString "ig" ∧ Str.ofString "öst" ≠ Str.ofString "els" ∧ Str.ofString "fullt" ≠ Str.ofString "lig" ∧ Str.ofString "fullt" ≠ Str.ofString "ig" ∧ Str.ofString "fullt" ≠ Str.ofString "els" ∧ Str.ofString "fullt" ≠ Str.ofString "öst" ∧
  Str.ofString "" ≠ Str.ofString "lig" ∧ Str.ofString "" ≠ Str.ofString "ig" ∧ Str.ofString "" ≠ Str.ofString "els" ∧ Str.ofString "" ≠ Str.ofString "öst" ∧ Str.ofString "" ≠ Str.ofString "fullt" := by decide +kernel
theorem third_det {v a b : Str} {p : Int} (hp : 0 ≤ p) (hp3 : 3 ≤ p ∨ (v.length : Int) ≤ p) (M : OtherR v p a) (L : LThird v p b) : a = b := by
  obtain ⟨n1, n2, n3, n4, n5, n6, n7, n8, n9, n10, n11, n12⟩ := ne3
  obtain ⟨e, stem, g, hst, L⟩ := L
  have key : (a = v ∧ e = Str.ofString "") ∨ (p ≤ v.length ∧ ∃ k, Hit 5 kK3 v p v.length k ∧ e = kK3 k ∧ ((kR3 k = 1 ∧ a = cutS v (v.length - (kK3 k).length) v.length (Str.ofString "")) ∨
     (kR3 k = 2 ∧ (((0 < (v.length : Int) - (kK3 k).length ∧ memOf xs2 (Txt.item v (v.length - (kK3 k).length - 1)) = true) ∧ a = cutS v (v.length - (kK3 k).length) v.length (Str.ofString "ös")) ∨
       (((v.length : Int) - (kK3 k).length ≤ 0 ∨ memOf xs2 (Txt.item v (v.length - (kK3 k).length - 1)) = false) ∧ a = v))) ∨
     (kR3 k = 3 ∧ a = cutS v (v.length - (kK3 k).length) v.length (Str.ofString "full")))) := by
    rcases M with ⟨h | h, rfl⟩ | ⟨h, k, hk, M⟩
    · exact Or.inl ⟨rfl, g.of_nil (slice_big (by omega))⟩
    · by_cases hc : p ≤ a.length
      · exact Or.inl ⟨rfl, nohit_lg tw3 (rev_slice hp hc) h g⟩
      · exact Or.inl ⟨rfl, g.of_nil (slice_big (by omega))⟩
    · exact Or.inr ⟨h, k, hk, hit_lg tw3 (rev_slice hp h) hk g, M⟩
  rcases key with ⟨rfl, he⟩ | ⟨h, k, hk, he, M⟩
  · subst he
    rcases L with ⟨h | h | h, _⟩ | ⟨h, _⟩ | ⟨h, _⟩ | ⟨_, _, _, _, _, h⟩
    · exact absurd h n8
    · exact absurd h n9
    · exact absurd h n10
    · exact absurd h n11
    · exact absurd h n12
    · exact h.symm
  · have gl := g.len
    have hf := len_from hp h
    have hlk := tw3.len k hk.1
    subst he
    have h1 : (0 : Int) ≤ v.length - (kK3 k).length := by omega
    have h2 : (v.length : Int) - (kK3 k).length ≤ v.length := by omega
    have hl := len_upto h1 h2
    rw [← hst] at hl
    have hls := slU h1 h2
    rw [← hst] at hls
    have hce : ∀ x, cutS v (v.length - (kK3 k).length) v.length x = stem ++ x := fun x => by rw [cut_end h1 h2, ← hst]
    rw [hce, hce, hce, app_emp] at M
    rcases M with ⟨hr, rfl⟩ | ⟨hr, M⟩ | ⟨hr, rfl⟩
    · have hks := r3of1 k hk.1 hr
      rcases L with ⟨_, rfl⟩ | ⟨h, _⟩ | ⟨h, _⟩ | ⟨x1, x2, x3, _, _, h⟩
      · rfl
      · rw [h] at hks; rcases hks with q | q | q <;> contradiction
      · rw [h] at hks; rcases hks with q | q | q <;> contradiction
      · rcases hks with q | q | q <;> contradiction
    · have hks := r3of2' k hk.1 hr
      have hkl := r3of2 k hk.1 hr
      have hI : Txt.item stem (stem.length - 1) = Txt.item v ((v.length : Int) - (kK3 k).length - 1) := by
        rw [item_take hls h2 (by omega) (by omega), hl]
      rw [hI] at L
      rcases L with ⟨h, _⟩ | ⟨_, L⟩ | ⟨h, _⟩ | ⟨_, _, _, h, _⟩
      · rw [hks] at h; rcases h with q | q | q <;> contradiction
      · rcases M with ⟨m2, rfl⟩ | ⟨m2, rfl⟩ <;> rcases L with ⟨l2, rfl⟩ | ⟨l2, rfl⟩
        · rfl
        · rw [m2.2] at l2; cases l2
        · rcases m2 with m2 | m2
          · omega
          · rw [m2] at l2; cases l2
        · rfl
      · rw [hks] at h; exact absurd h.symm n7
      · exact absurd hks h
    · have hks := r3of3' k hk.1 hr
      rcases L with ⟨h, _⟩ | ⟨h, _⟩ | ⟨_, rfl⟩ | ⟨_, _, _, _, h, _⟩
      · rw [hks] at h; rcases h with q | q | q <;> contradiction
      · rw [hks] at h; exact absurd h n7
      · rfl
      · exact absurd hks h
theorem LMain.len {v b : Str} {p : Int} (hB : 0 ≤ p ∧ p ≤ v.length) (L : LMain v p b) : b.length ≤ v.length := by
  obtain ⟨e, stem, root, g, hst, hro, L⟩ := L
  have h1 : stem.length ≤ v.length := by rw [hst]; exact Txt.slice_le _ _ _
  have h2 : root.length ≤ stem.length := by rw [hro]; exact Txt.slice_le _ _ _
  rcases L with ⟨_, ⟨_, rfl⟩ | ⟨_, ⟨_, rfl⟩ | ⟨_, rfl⟩⟩⟩ | ⟨_, ⟨_, rfl⟩ | ⟨_, rfl⟩⟩ | ⟨_, _, rfl⟩ <;> lia
theorem LPair.len {v b : Str} {p : Int} (L : LPair v p b) : b.length ≤ v.length := by
  obtain ⟨e, g, ⟨_, rfl⟩ | ⟨_, rfl⟩⟩ := L
  · exact Txt.slice_le _ _ _
  · exact Nat.le_refl _
/-- the two tell the same stem -/
theorem stem_det {v a b : Str} (M : StemR v a) (L : LawR v b) : a = b := by
  obtain ⟨p, c1, c2, hp, m1, m2, m3⟩ := M
  obtain ⟨q, w1, w2, hq, l1, l2, l3⟩ := L
  have hpq := reg_uniq hp hq
  subst hpq
  have hB := regB hp
  have e1 := main_det hp m1 l1
  subst e1
  have e2 := pair_det hB.1 m2 l2
  subst e2
  have g1 := l1.len ⟨hB.1, hB.2.1⟩
  have g2 := l2.len
  exact third_det hB.1 (by lia) m3 l3
end
-- W22
section
open PySem PySem.W PySem.Calls PyProof.Rows PySem.Spec

theorem unstop22 {P : Prop} (h : P) : Stop P := by unfold Stop; exact h
theorem stopped22 {P : Prop} (h : Stop P) : P := by unfold Stop at h; exact h

/-- a heap's objects as a ledger -/
noncomputable def allOf (g : Heap) : List (Addr × Obj) := (List.range g.objs.size).filterMap fun b => (g.get? b).map fun o => (b, o)
theorem mem_allOf {g : Heap} {p : Addr × Obj} : p ∈ allOf g ↔ g.get? p.1 = some p.2 := by
  unfold allOf
  rw [List.mem_filterMap]
  constructor
  · rintro ⟨b, _, h⟩
    cases hq : g.get? b with
    | none => rw [hq] at h; cases h
    | some o => rw [hq] at h; cases h; exact hq
  · intro h
    exact ⟨p.1, List.mem_range.mpr (Heap.lt_size h), by rw [h]; rfl⟩
noncomputable def emp : Heap := {}
theorem emp_none (b : Addr) : emp.get? b = none := by
  cases h : emp.get? b with
  | none => rfl
  | some o => exact absurd (Heap.lt_size h) (Nat.not_lt_zero _)
theorem fr_emp {g h : Heap} {L : Addr} {m : Str → Option Value} (F : Fr g L h m) : Fr emp L h m :=
  ⟨F.ns, fun b o e => by rw [emp_none] at e; (cases e), Nat.zero_le _⟩
theorem news_emp {g h : Heap} {L : Addr} {m : Str → Option Value} {l : List (Addr × Obj)} (F : Fr g L h m) (N : News g L h l) : News emp L h (l ++ allOf g) := fun p hp => by
  rcases List.mem_append.mp hp with hp | hp
  · exact ⟨(N p hp).1, (N p hp).2.1, emp_none _⟩
  · have hg := mem_allOf.mp hp
    refine ⟨F.keep _ _ hg, fun q => ?_, emp_none _⟩
    have := kts_self F
    rw [← q, hg] at this
    cases this
theorem fr_back {g h : Heap} {L : Addr} {m : Str → Option Value} {l : List (Addr × Obj)} (F : Fr emp L h m) (N : News emp L h (l ++ allOf g)) (ab : g.objs.size ≤ L) : Fr g L h m :=
  ⟨F.ns, fun b o e => (N (b, o) (List.mem_append_right _ (mem_allOf.mpr e))).1, ab⟩
theorem allOf_none {g : Heap} {I : Addr} (h : ∀ p ∈ allOf g, p.1 ≠ I) : g.get? I = none := by
  cases hq : g.get? I with
  | none => rfl
  | some o => exact absurd rfl (h (I, o) (mem_allOf.mpr hq))
theorem news_back {g h : Heap} {L : Addr} {l l' : List (Addr × Obj)} (N : News emp L h (l ++ allOf g)) (n : ∀ p ∈ l', p ∈ l ∧ g.get? p.1 = none) : News g L h l' := fun p hp =>
  ⟨(N p (List.mem_append_left _ (n p hp).1)).1, (N p (List.mem_append_left _ (n p hp).1)).2.1, (n p hp).2⟩
theorem news_drop2 {h₀ h : Heap} {L : Addr} {a b : Addr × Obj} {l : List (Addr × Obj)} (N : News h₀ L h (a :: b :: l)) : News h₀ L h (a :: l) := news_of_mem N fun p hp => by
  rcases List.mem_cons.mp hp with rfl | hp
  · exact List.Mem.head _
  · exact List.Mem.tail _ (List.Mem.tail _ hp)
theorem off1_mem {D : Addr} : ∀ {l : List (Addr × Obj)}, LCg.Off1 D l → ∀ p ∈ l, p.1 ≠ D
  | [], _, _, h => nomatch h
  | _ :: _, x, p, h => by
    rcases List.mem_cons.mp h with rfl | h
    · exact x.1
    · exact off1_mem x.2 p h
theorem off_of {g h : Heap} {L I C D : Addr} {oI oC oD : Obj} {l : List (Addr × Obj)} (N : News g L h ((I, oI) :: (C, oC) :: (D, oD) :: l)) (hl : ∀ p ∈ l, p.1 ≠ I ∧ p.1 ≠ C ∧ p.1 ≠ D) : LCg.Off3 I C D (l ++ allOf g) := by
  refine LCg.Off3.of fun p hp => ?_
  rcases List.mem_append.mp hp with hp | hp
  · exact hl p hp
  · have hg := mem_allOf.mp hp
    have k1 := (N (I, oI) (by simp)).2.2
    have k2 := (N (C, oC) (by simp)).2.2
    have k3 := (N (D, oD) (by simp)).2.2
    refine ⟨fun q => ?_, fun q => ?_, fun q => ?_⟩
    · rw [← q, hg] at k1; cases k1
    · rw [← q, hg] at k2; cases k2
    · rw [← q, hg] at k3; cases k3
set_option hygiene false in
local macro_rules | `(tactic| walk_at "call ref") => `(tactic| (k_here; k_dflt (apply MethC7.use (c_stemWord _ _ _ ?hv); walk_at "g7"; (case hv => first | with_reducible assumption | omega | assumption); walk_at "gC"); walk_at "o7"))
local macro_rules | `(tactic| walk_at "eval ListComp") => `(tactic| (k_here; refine stop_at ?_))
set_option maxHeartbeats 4000000 in
theorem m_stemWords (w : World) {mean : ExcName → Option Value} {mg mb : Str → Option Value} {A₀ A : Around} {base h₀ : Heap} {env : Env} {L : Addr} {m : Str → Option Value} {s : Shared} {x dx lw : Addr} {o : Obj} {σ : St} {rest : List (Addr × Obj)} {Q E : Value → Shared → Prop} {v1 v2 : Str} {t1 t2 : Tok} {k : Nat}
    (B : Below A₀ base [] h₀) (F : Fr h₀ L s.heap m) (X : (KF w.params).In h₀) (N : News h₀ L s.heap ((x, instObj 494 dx) :: (dx, o) :: (lw, W.listOf [.str v1 t1, .str v2 t2].toArray k) :: rest)) (T : Top vq (looseW vq vloose) mean mg mb h₀) (XB : (KF w.params).In base) (TB : Top vq (looseW vq vloose) mean mg mb base)
    (hh : A.handled = none) (hrest : ∀ p ∈ rest, p.1 ≠ dx) (hxd : x ≠ dx) (hld : lw ≠ dx) (hA : A.frames = some [env]) (hf : env.frame = some L) (hk : env.scope.kind = .function) (hd : A.depth + 20 < recursionLimit) (hu : A.units + 250 < cLine) (hσ : DictIs w.params σ o) (hp : σ.p1.isSome = true) (hv1 : v1.length ≤ 1000) (hv2 : v2.length ≤ 1000)
    (hQ : ∀ D r1 r2 t1' t2' σ' o' h' tk', DictIs w.params σ' o' → StemR v1 r1 → StemR v2 r2 → Fr h₀ L h' m → News h₀ L h' ((D, LCg.lst [.str r1 t1', .str r2 t2']) :: (x, instObj 494 dx) :: (dx, o') :: (lw, W.listOf [.str v1 t1, .str v2 t2].toArray k) :: rest) → Q (.ref D) { s with heap := h', toks := tk' }) :
    wpAny (model pw w) A (call (.ref 194) [.ref x, .ref lw]) Q E s := by
  obtain ⟨cur, c, lim, lb, bra, ket, p1⟩ := σ
  obtain ⟨p1, rfl⟩ := Option.isSome_iff_exists.mp hp
  obtain ⟨zk, rfl⟩ := kap7 hσ
  (try dsimp only at N)
  refine wpAny_call ?_
  k_dflt (refine' code_defCT ?k1 ?k2 ?k3 ?k4 ?k5 ?kA ?kF ?kK ?k6 ?k7 ?k8 ?k9 ?kB ?kD ?_ ?c2 ?c3 ?c4; (case kA => first | with_reducible assumption | assumption); (case kF => first | with_reducible assumption | assumption); (case kK => first | with_reducible assumption | assumption); (case k1 => k_asm); (case k2 => k_asm); (case k3 => k_asm); (case k4 => k_asm); (case k5 => k_asm); (case k6 => k_is); (case k7 => k_is); (case k8 => omega); (case k9 => exact BindsTo.of_eq rfl); (case kB => exact rfl); (case kD => decide +kernel); (case c2 => exact rfl); (case c3 => exact rfl); (case c4 => exact rfl); k_whole)
  intro g L' h' tk' cells' FG F' N' Y' B' X' T' D' l1
  k_cells Y'
  try simp only [List.cons_append, List.nil_append] at N'
  try dsimp only
  rename Obj => oc
  have hcell : oc.data = .cell (some (.ref x)) := by assumption
  obtain ⟨m1, hm1, F1⟩ : ∃ m1 : Str → Option Value, m1 (Str.ofString "words") = some (.ref lw) ∧ Fr g L' h' m1 := ⟨_, rfl, F'⟩
  clear F'
  walk_at "m_steps"
  refine unstop22 ?_
  dsimp only
  refine LCg.ListComp_U (h₀ := emp) (L := L') (m := m1) (fr_emp F1) (by with_unfolding_all rfl) (by decide) (by rfl) (by decide) (by rfl) ?_
  refine ldLoc F1 hm1 ?_
  have hdl : dx < L' := l1 _ (List.Mem.tail _ (List.Mem.head _))
  have hdl := ltN hdl
  have hcd := neN (Nat.ne_of_gt (Nat.lt_succ_of_lt hdl))
  refine LCg.CompSrc.ledger (its := [.str v1 t1, .str v2 t2].toArray) (k := k) (by first | rfl | exact hh) (fr_emp F1) (news_emp F1 N') (by simp) (by show 2 ≤ sizeLine; decide) ?_
  intro gg
  show LCg.CompRest _ _ _ _ _ _ _ _ _ _ _ _ _ _ _ 2 0 [] _
  have ab0 := F1.above
  have hn0 := fun p hp => (N' p hp).2.2
  refine LCg.CompRest.succ ?_
  intro v I oI C oC D m2 h tk E' hv hC hx F2 N2 off ne
  obtain rfl : Value.str v1 t1 = v := Option.some.inj hv
  have off' := off.mem
  have FB := fr_back (l := (I, oI) :: (C, oC) :: (D, _) :: _) F2 N2 ab0
  have NB := news_back (l := (I, oI) :: (C, oC) :: (D, _) :: _) (l' := (I, oI) :: (C, oC) :: (D, _) :: _) N2 fun p hp => ⟨hp, by
    rcases List.mem_cons.mp hp with rfl | hp
    · exact allOf_none fun q hq => (off' q (List.mem_append_right _ hq)).1
    rcases List.mem_cons.mp hp with rfl | hp
    · exact allOf_none fun q hq => (off' q (List.mem_append_right _ hq)).2.1
    rcases List.mem_cons.mp hp with rfl | hp
    · exact allOf_none fun q hq => (off' q (List.mem_append_right _ hq)).2.2
    exact hn0 p hp⟩
  obtain ⟨q1, q2, q3⟩ : dx ≠ I ∧ dx ≠ C ∧ dx ≠ D := off' _ (List.mem_append_left _ (List.Mem.tail _ (List.Mem.tail _ (List.Mem.head _))))
  replace q1 := neN (Ne.symm q1)
  replace q2 := neN (Ne.symm q2)
  replace q3 := neN (Ne.symm q3)
  have hr2 : ∀ p ∈ (lw, W.listOf [.str v1 t1, .str v2 t2].toArray k) :: rest, p.1 ≠ dx := fun p hp => by
    rcases List.mem_cons.mp hp with rfl | hp
    · exact hld
    · exact hrest p hp
  clear F2 N2 N'
  walk_at "m_steps"
  rename StemR v1 _ => fS1
  rename Fr _ L' _ m1 => F3
  rename News _ L' _ _ => N3
  rename KtsTurn _ _ _ => T3
  refine LCg.CompEnd.intro (fr_emp F3) (news_emp F3 N3) _ (fun p hp => hp) (off_of N3 ?off) (Or.inr ⟨_, List.mem_append_left _ (List.Mem.tail _ (List.Mem.tail _ (List.Mem.tail _ (List.Mem.head _)))), rfl, _, rfl⟩) ?_
  case off =>
    intro p hp
    rcases List.mem_cons.mp hp with rfl | hp
    · exact off' _ (List.mem_append_left _ (List.Mem.head _))
    rcases List.mem_cons.mp hp with rfl | hp
    · exact off' _ (List.mem_append_left _ (List.Mem.tail _ (List.Mem.head _)))
    rcases List.mem_cons.mp hp with rfl | hp
    · exact ⟨Ne.symm q1, Ne.symm q2, Ne.symm q3⟩
    · exact off' _ (List.mem_append_left _ (List.Mem.tail _ (List.Mem.tail _ (List.Mem.tail _ hp))))
  have ab3 := F3.above
  have hn3 := fun p hp => (N3 p (List.Mem.tail _ (List.Mem.tail _ (List.Mem.tail _ hp)))).2.2
  clear FB NB off' hn0 ab0 off hv hC hx ne q1 q2 q3
  dsimp only [List.nil_append]
  refine LCg.CompRest.succ ?_
  intro v I' oI' C' oC' D' m2' h3 tk3 E3 hv hC hx F2 N2 off ne
  obtain rfl : Value.str v2 t2 = v := Option.some.inj hv
  have off' := off.mem
  have FB := fr_back (l := (I', oI') :: (C', oC') :: (D', _) :: _) F2 N2 ab3
  have NB := news_back (l := (I', oI') :: (C', oC') :: (D', _) :: _) (l' := (I', oI') :: (C', oC') :: (D', _) :: _) N2 fun p hp => ⟨hp, by
    rcases List.mem_cons.mp hp with rfl | hp
    · exact allOf_none fun q hq => (off' q (List.mem_append_right _ hq)).1
    rcases List.mem_cons.mp hp with rfl | hp
    · exact allOf_none fun q hq => (off' q (List.mem_append_right _ hq)).2.1
    rcases List.mem_cons.mp hp with rfl | hp
    · exact allOf_none fun q hq => (off' q (List.mem_append_right _ hq)).2.2
    exact hn3 p hp⟩
  obtain ⟨q1, q2, q3⟩ : dx ≠ I' ∧ dx ≠ C' ∧ dx ≠ D' := off' _ (List.mem_append_left _ (List.Mem.tail _ (List.Mem.tail _ (List.Mem.head _))))
  replace q1 := neN (Ne.symm q1)
  replace q2 := neN (Ne.symm q2)
  replace q3 := neN (Ne.symm q3)
  clear F2 N2 N3 F3
  walk_at "m_steps"
  rename StemR v2 _ => fS2
  rename Fr _ L' _ m1 => F3
  rename News _ L' _ _ => N3
  rename KtsTurn _ _ _ => T4
  refine LCg.CompEnd.intro (fr_emp F3) (news_emp F3 N3) _ (fun p hp => hp) (off_of N3 ?off) (Or.inr ⟨_, List.mem_append_left _ (List.Mem.tail _ (List.Mem.tail _ (List.Mem.tail _ (List.Mem.head _)))), rfl, _, rfl⟩) ?_
  case off =>
    intro p hp
    rcases List.mem_cons.mp hp with rfl | hp
    · exact off' _ (List.mem_append_left _ (List.Mem.head _))
    rcases List.mem_cons.mp hp with rfl | hp
    · exact off' _ (List.mem_append_left _ (List.Mem.tail _ (List.Mem.head _)))
    rcases List.mem_cons.mp hp with rfl | hp
    · exact ⟨Ne.symm q1, Ne.symm q2, Ne.symm q3⟩
    · exact off' _ (List.mem_append_left _ (List.Mem.tail _ (List.Mem.tail _ (List.Mem.tail _ hp))))
  have ab4 := F3.above
  have hn4 := fun p hp => (N3 p (List.Mem.tail _ (List.Mem.tail _ (List.Mem.tail _ hp)))).2.2
  refine LCg.CompRest.zero ?_
  intro D5 h5 tk5 F5 N5 o5
  have FB5 := fr_back (l := (D5, _) :: _) F5 N5 ab4
  have o5' := off1_mem o5
  have NB5 := news_back (l := (D5, _) :: _) (l' := (D5, _) :: _) N5 fun p hp => ⟨hp, by
    rcases List.mem_cons.mp hp with rfl | hp
    · exact allOf_none fun q hq => o5' q (List.mem_append_right _ hq)
    exact hn4 p hp⟩
  refine leaveC_ T4 FB5 NB5 ?_
  intro kF kN
  have kN' := news_drop2 kN
  dsimp only [List.nil_append, List.cons_append] at kN'
  refine' hQ D5 _ _ _ _ _ _ h5 tk5 ?cd fS1 fS2 kF kN'
  case cd => exact dict_some
end
-- W23
section
open PySem PySem.W PySem.Calls PyProof.Rows PySem.Spec

theorem unstop23 {P : Prop} (h : P) : Stop P := by unfold Stop; exact h
theorem stopped23 {P : Prop} (h : Stop P) : P := by unfold Stop at h; exact h
theorem law_open {K : Frag} {C : List Stmt → Scope → Prop} {a : Addr} {name qual name' qual' : Str} {params params' : Arguments} {body body' : List Stmt} {scope scope' : Scope} {dV kV doc pm cdv ct oc dV' kV' doc' pm' cdv' ct' oc' : Value} {an od an' od' : Option Addr} {osl osl' : Array (Option Value)}
    (h1 : K.lookup a = some ⟨oc, od, .func (fnOf name qual params body scope dV kV doc pm an cdv ct), osl⟩) (h2 : K.lookup a = some ⟨oc', od', .func (fnOf name' qual' params' body' scope' dV' kV' doc' pm' an' cdv' ct'), osl'⟩)
    (h : C body' scope') : C body scope := by
  rw [h1] at h2
  have e := congrArg Obj.data (Option.some.inj h2)
  injection e with e
  injection e with e1 e2 e3 e4 e5
  injection e4 with e4
  subst e4; subst e5
  exact h
/-- a method called by the law itself: nothing below it, so nothing turns -/
theorem MethC.useL {w : World} {D U : Nat} {f : Addr} {args : List Value} {pre : St → Prop} {post : St → Value → St → Prop} (S : MethC w D U f args pre post)
    {mean : ExcName → Option Value} {mg mb : Str → Option Value} {A₀ A : Around} {h₀ : Heap} {env : Env} {L : Addr} {m : Str → Option Value} {s : Shared} {x dx : Addr} {o : Obj} {σ : St} {news : List (Addr × Obj)} {g : Obj → List (Addr × Obj)} {Q E : Value → Shared → Prop}
    (F : Fr h₀ L s.heap m) (B : Below A₀ h₀ [] h₀) (X : (KF w.params).In h₀) (N : News h₀ L s.heap news) (T : Top vq (looseW vq vloose) mean mg mb h₀) (hh : A.handled = none)
    (hx : (x, instObj 494 dx) ∈ news) (Up : UpdF dx o news g) (hA : A.frames = some [env]) (hf : env.frame = some L) (hk : env.scope.kind = .function) (hd : A.depth + D < recursionLimit) (hu : A.units + U < cLine) (hσ : DictIs w.params σ o) (hp : pre σ)
    (hQ : ∀ r σ' o' h' tk', DictIs w.params σ' o' → post σ r σ' → Fr h₀ L h' m → News h₀ L h' (g o') → Q r { s with heap := h', toks := tk' }) :
    wpAny (model pw w) A (call (.ref f) (.ref x :: args)) Q E s :=
  S.use (outer := []) B F X N T X T (fun b hb => nomatch hb) KtsTurn.refl hh hx Up hA hf hk hd hu hσ hp fun r σ' o' h' tk' h₀' a b T' F' N' _ _ _ _ =>
    hQ r σ' o' h' tk' a b ⟨F'.ns, fun b o e => F'.keep b o (T'.other b o e (fun h => nomatch h)), by rw [← T'.size]; exact F'.above⟩ fun p hp => ⟨(N' p hp).1, (N' p hp).2.1, by
      cases q : h₀.get? p.1 with
      | none => rfl
      | some o =>
        have h1 := (N' p hp).2.2
        rw [T'.other _ _ q (fun h => nomatch h)] at h1
        cases h1⟩
theorem MethCT.useL {w : World} {D U : Nat} {f : Addr} {args : List Value} {cur : Str} {c lim lb bra ket : Int} {p1 : Option Int} {pre : Prop} {Out : (Value → Str → Int → Int → Int → Int → Int → Int → Prop) → Prop} (S : MethCT w D U f args cur c lim lb bra ket p1 pre Out)
    {mean : ExcName → Option Value} {mg mb : Str → Option Value} {A₀ A : Around} {h₀ : Heap} {env : Env} {L : Addr} {m : Str → Option Value} {s : Shared} {x dx : Addr} {o : Obj} {news : List (Addr × Obj)} {g : Obj → List (Addr × Obj)} {Q E : Value → Shared → Prop}
    (F : Fr h₀ L s.heap m) (B : Below A₀ h₀ [] h₀) (X : (KF w.params).In h₀) (N : News h₀ L s.heap news) (T : Top vq (looseW vq vloose) mean mg mb h₀) (hh : A.handled = none)
    (hx : (x, instObj 494 dx) ∈ news) (Up : UpdF dx o news g) (hA : A.frames = some [env]) (hf : env.frame = some L) (hk : env.scope.kind = .function) (hd : A.depth + D < recursionLimit) (hu : A.units + U < cLine) (hσ : DictIs w.params ⟨cur, c, lim, lb, bra, ket, p1⟩ o) (hp : pre)
    (hQ : Out fun r cur' c' lim' lb' bra' ket' p1' => ∀ (κ : Nat → Tok) h' tk', Fr h₀ L h' m → News h₀ L h' (g (dictOf [⟨PyData.keyHash w.params (Str.ofString "current"), .str (Str.ofString "current") (κ 0), .str cur' (κ 7)⟩, ⟨PyData.keyHash w.params (Str.ofString "cursor"), .str (Str.ofString "cursor") (κ 1), .int c' (κ 8)⟩, ⟨PyData.keyHash w.params (Str.ofString "limit"), .str (Str.ofString "limit") (κ 2), .int lim' (κ 9)⟩, ⟨PyData.keyHash w.params (Str.ofString "limit_backward"), .str (Str.ofString "limit_backward") (κ 3), .int lb' (κ 10)⟩, ⟨PyData.keyHash w.params (Str.ofString "bra"), .str (Str.ofString "bra") (κ 4), .int bra' (κ 11)⟩, ⟨PyData.keyHash w.params (Str.ofString "ket"), .str (Str.ofString "ket") (κ 5), .int ket' (κ 12)⟩, ⟨PyData.keyHash w.params (Str.ofString "I_p1"), .str (Str.ofString "I_p1") (κ 6), .int p1' (κ 13)⟩] 7)) → Q r { s with heap := h', toks := tk' }) :
    wpAny (model pw w) A (call (.ref f) (.ref x :: args)) Q E s := by
  obtain ⟨pre₀, post, M, h1, h2⟩ := S
  refine M.useL F B X N T hh hx Up hA hf hk hd hu hσ (h1 hp) ?_
  intro r σ' o' h' tk' a b e1 e2
  obtain ⟨cur', c', lim', lb', bra', ket', p1', rfl, hK⟩ := h2 _ hQ r σ' b
  obtain ⟨κ, rfl⟩ := kap7 a
  exact hK κ h' tk' e1 e2
/-- a list of n strs, all short -/
noncomputable def SL (n : Nat) (vs : List Value) : Prop := ∃ ys, StrsAre vs ys ∧ vs.length = n ∧ ∀ y ∈ ys, y.length ≤ 20
theorem SL.app {n k : Nat} {vs ws : List Value} (a : SL n vs) (b : SL k ws) : SL (n + k) (vs ++ ws) := by
  obtain ⟨ys, a1, a2, a3⟩ := a
  obtain ⟨zs, b1, b2, b3⟩ := b
  refine ⟨ys ++ zs, a1.append' b1, by rw [List.length_append, a2, b2], fun y hy => ?_⟩
  rcases List.mem_append.mp hy with h | h
  · exact a3 y h
  · exact b3 y h
noncomputable def SLat (h : Heap) (a : Addr) (n : Nat) : Prop := ∃ vs, h.IsList a vs.toArray ∧ SL n vs
theorem SLat.ofK {P : Params} {h₀ h : Heap} {L a : Addr} {m : Str → Option Value} {ws : List Str} (T : ListAt P a ws) (F : Fr h₀ L h m) (X : (KF P).In h₀) (hw : ∀ y ∈ ws, y.length ≤ 20) : SLat h a ws.length := by
  obtain ⟨vs, h1, h2⟩ := T.isList (X.keeps F.keep)
  exact ⟨vs, h1, ws, h2, h2.length, hw⟩
theorem SLat.ofN {h₀ h : Heap} {L a : Addr} {vs : List Value} {k n : Nat} {news : List (Addr × Obj)} (N : News h₀ L h news) (hm : (a, W.listOf vs.toArray k) ∈ news) (hs : SL n vs) : SLat h a n := ⟨vs, News.isList N hm, hs⟩
theorem SLat.ofOne {h₀ h : Heap} {L a : Addr} {y : Str} {t : Tok} {k : Nat} {news : List (Addr × Obj)} (N : News h₀ L h news) (hm : (a, W.listOf [.str y t].toArray k) ∈ news) (hs : y.length ≤ 20) : SLat h a 1 := SLat.ofN N hm ⟨[y], .cons _ _ .nil, rfl, fun z hz => by rw [List.mem_singleton.mp hz]; exact hs⟩
theorem SLat.ofL {h₀ h : Heap} {L a : Addr} {vs : List Value} {n : Nat} {news : List (Addr × Obj)} (N : News h₀ L h news) (hm : (a, LCg.lst vs) ∈ news) (hs : SL n vs) : SLat h a n := SLat.ofN (k := vs.length) N hm hs
theorem stays_len : ∀ y ∈ ws_stays, y.length ≤ 4 := by decide +kernel
theorem len_et {y : Str} (h : y.length ≤ 4) : (y ++ Str.ofString "et").length ≤ 20 := by
  rw [← len_list, cps_app, Array.toList_append, List.length_append, len_list, len_list, et_len]; omega
theorem comp_strs {prog : Program} {w : World} {A : Around} {h₀ : Heap} {L : Addr} {m : Str → Option Value} {env : Env} {elt : PySem.Expr} {x : Str} {scope : Scope} {cl : List (Str × Addr)} {s : Shared} {ax : Addr} {its : Array Value} {Fin : List Value → List (Addr × Obj) → Prop} {news : List (Addr × Obj)} (n : Nat)
    (turn : ∀ ys v I oI C oC D m₂ h tk (E' : Value → Shared → Prop), (∃ i : Nat, its[i]? = some v) → LCg.NsObj oC m₂ → m₂ x = some v → Fr h₀ L h m → News h₀ L h ((I, oI) :: (C, oC) :: (D, LCg.lst ys) :: news) → LCg.Off3 I C D news → ((@Ne Nat I C) ∧ (@Ne Nat I D) ∧ (@Ne Nat C D)) →
      wpAny (model prog w) A (eval elt (compEnvC scope cl C env)) (LCg.CompEnd h₀ L m { s with heap := h, toks := tk } I oI C oC D (LCg.lst ys) (LCg.SrcAt h₀ ax its) (fun y news' => news' = news ∧ ∃ z t, y = .str z t ∧ z.length ≤ 20)) E' { s with heap := h, toks := tk })
    (fin : ∀ ys, SL n ys → Fin ys news) : ∀ k i ys, SL i ys → i + k = n → LCg.CompRest prog w A h₀ L m env elt x scope cl s (LCg.SrcAt h₀ ax its) (fun i v => its[i]? = some v) Fin k i ys news
  | 0, i, ys, hy, e => fin ys (by rw [← e]; exact hy)
  | k + 1, i, ys, hy, e => by
    refine LCg.CompRest.succ ?_
    intro v I oI C oC D m₂ h tk E' hv hC hx F N off ne
    refine wpAny_mono (turn ys v I oI C oC D m₂ h tk E' ⟨i, hv⟩ hC hx F N off ne) (fun y s₂ hc => ?_) (fun _ _ h => h)
    obtain ⟨h', tk', news', e1, F', N', o', S', e2, z, t, e3, hz⟩ := hc
    subst e2
    subst e3
    refine ⟨h', tk', news', e1, F', N', o', S', ?_⟩
    refine comp_strs n turn fin k (i + 1) _ ?_ (by omega)
    obtain ⟨zs, a1, a2, a3⟩ := hy
    exact ⟨zs ++ [z], a1.append' (.cons _ _ .nil), by rw [List.length_append, a2]; rfl, fun y hy => by
      rcases List.mem_append.mp hy with h | h
      · exact a3 y h
      · rw [List.mem_singleton.mp h]; exact hz⟩
section
variable {prog : Program} {w : World} {A : Around} {E : Value → Shared → Prop} {s : Shared} {h₀ : Heap} {L a b : Addr} {m : Str → Option Value} {news : List (Addr × Obj)} {Q : Value → Shared → Prop} {n k : Nat}
theorem add_SL (F : Fr h₀ L s.heap m) (N : News h₀ L s.heap news) (ha : SLat s.heap a n) (hb : SLat s.heap b k) (hn : n + k ≤ 1000)
    (h : ∀ D vs h', SL (n + k) vs → Fr h₀ L h' m → News h₀ L h' ((D, listOf vs.toArray 0) :: news) → (∀ p ∈ news, p.1 < D) → Q (.ref D) { s with heap := h' }) : wpAny (model prog w) A (binaryOp .Add (.ref a) (.ref b)) Q E s := by
  obtain ⟨vs, a1, a2⟩ := ha
  obtain ⟨ws, b1, b2⟩ := hb
  refine kmk_add_lit F N a1 b1 rfl (fun D h' F' N' l1 => h D _ h' (a2.app b2) F' N' l1) ?_
  obtain ⟨_, _, a3, _⟩ := a2
  obtain ⟨_, _, b3, _⟩ := b2
  show vs.length + ws.length ≤ sizeLine
  rw [a3, b3, sizeLine_eq]; omega
end
section
variable {prog : Program} {w : World} {A : Around} {E : Value → Shared → Prop} {s : Shared} {env : Env} {h₀ : Heap} {x : Str} {body : List Stmt} {Q : Flow → Shared → Prop}
open PyProof.V in
theorem for_list {ax : Addr} {us : List Value} {m₀ : Str → Option Value} {news : List (Addr × Obj)} (J : Nat → (Str → Option Value) → List (Addr × Obj) → Prop) (hh : A.handled = none) (hl : s.heap.IsList ax us.toArray)
    (hLx : env.locals ≠ ax) (hnx : ∀ p ∈ news, p.1 ≠ ax) (F : Fr h₀ env.locals s.heap m₀) (N : News h₀ env.locals s.heap news) (hj : J 0 m₀ news)
    (turn : ∀ i v m₁ nx h tk own, us[i]? = some v → nx.map (·.1) = news.map (·.1) → OwnOff own (news.map (·.1)) → J i m₁ nx → Fr h₀ env.locals h (fun y => if y = x then some v else m₁ y) → News h₀ env.locals h (nx ++ own) →
      wpAny (model prog w) A (execs body env) (InvPostN h₀ env.locals (J (i + 1)) own (news.map (·.1)) { s with heap := h, toks := tk } Q) E { s with heap := h, toks := tk })
    (done : ∀ m₁ nx h tk, J us.length m₁ nx → Fr h₀ env.locals h m₁ → News h₀ env.locals h nx → Q .next { s with heap := h, toks := tk }) :
    wpAny (model prog w) A (pyIter (.ref ax)) (fun it s₂ => LoopAtV prog w A h₀ env x body Q E it s₂) E s := by
  have hlt : ax < s.heap.objs.size := by obtain ⟨_, e, _⟩ := hl; exact Heap.lt_size e
  refine wpAny_pyIter_list hl ?_
  refine loop_invN J (Walks.list hh s.heap.objs.size ax (Nat.ne_of_lt hlt) us.toArray) ?_ ?_ ?_ ?_ ⟨⟨_, Heap.get?_push_size _ rfl, rfl, rfl⟩, hl.push _⟩ (F.push _) (fun p hp => ⟨Heap.get?_push_of_some _ (N p hp).1, (N p hp).2⟩) hj ?_ ?_
  · intro hm
    rcases List.mem_cons.mp hm with h | h
    · exact absurd F.ns.lt (h ▸ Nat.lt_irrefl _)
    · exact hLx (List.mem_singleton.mp h)
  · intro b hb
    rw [List.mem_singleton.mp hb]
    exact next_is_new F
  · intro p hp hI
    exact absurd (Heap.lt_size (N p hp).1) ((List.mem_singleton.mp hI) ▸ Nat.lt_irrefl _)
  · intro p hp hI
    rcases List.mem_cons.mp hI with h | h
    · exact absurd (Heap.lt_size (N p hp).1) (h ▸ Nat.lt_irrefl _)
    · exact hnx p hp (List.mem_singleton.mp h)
  · intro i v m₁ nx h tk own hi hv ha ho hJ F₁ N₁
    exact turn i v m₁ nx h tk own (by simpa using hv) ha ho hJ F₁ N₁
  · intro m₁ nx h tk hJ F₁ N₁
    exact done m₁ nx h tk hJ F₁ N₁
end
theorem len_app1 (a : Str) (c : Nat) : (a ++ (⟨#[c]⟩ : Str)).length = a.length + 1 := by
  rw [← len_list, cps_app, Array.toList_append, List.length_append, len_list]; rfl
/-- what the law's loop keeps -/
noncomputable def LawJ (lp lw lc : Addr) (vp : List Value) (co : Obj) (m' : Str → Option Value) (nx : List (Addr × Obj)) : Prop :=
  m' (Str.ofString "pieces") = some (.ref lp) ∧ m' (Str.ofString "words") = some (.ref lw) ∧ ∃ a b ta tb, nx = [(lw, W.listOf [.str a ta, .str b tb].toArray 0), (lp, W.listOf vp.toArray 0), (lc, co)] ∧ a.length ≤ 28 ∧ b.length ≤ 28
theorem law_turn_end {h₀ h' : Heap} {L lp lw lc : Addr} {vp : List Value} {co : Obj} {m' : Str → Option Value} {a b : Str} {ta tb tk : Tok} {own : List (Addr × Obj)} {s₀ : Shared}
    (F : Fr h₀ L h' m') (N : News h₀ L h' ((lw, W.listOf [.str a ta, .str b tb].toArray 0) :: (lp, W.listOf vp.toArray 0) :: (lc, co) :: own)) (k1 : m' (Str.ofString "pieces") = some (.ref lp)) (k2 : m' (Str.ofString "words") = some (.ref lw)) (la : a.length ≤ 28) (lb : b.length ≤ 28) :
    InvEndN h₀ L (LawJ lp lw lc vp co) own [lw, lp, lc] s₀ { s₀ with heap := h', toks := tk } :=
  ⟨_, _, _, _, [(lw, W.listOf [.str a ta, .str b tb].toArray 0), (lp, W.listOf vp.toArray 0), (lc, co)], rfl, F, N, fun p hp => List.mem_append_left (bs := own) (as := [(lw, W.listOf [.str a ta, .str b tb].toArray 0), (lp, W.listOf vp.toArray 0), (lc, co)]) hp, fun p hp => List.Mem.tail _ (List.Mem.tail _ (List.Mem.tail _ hp)), rfl, k1, k2, _, _, _, _, rfl, la, lb⟩
section
variable {prog : Program} {w : World} {A : Around} {E : Value → Shared → Prop} {s : Shared} {Q : Value → Shared → Prop}
theorem fm123 (n : Int) : 0 ≤ n.fmod ((123 : Nat) : Int) ∧ n.fmod ((123 : Nat) : Int) < ((123 : Nat) : Int) := ⟨Int.fmod_nonneg_of_pos _ (by decide), Int.fmod_lt_of_pos _ (by decide)⟩
theorem len_SL {a : Addr} {n : Nat} (h : SLat s.heap a n) (hn : n ≤ 1000) (hQ : ∀ t k, Q (.int (n : Int) t) { s with toks := k }) : wpAny (model prog w) A (call (.builtin "len") [.ref a]) Q E s := by
  obtain ⟨vs, h1, ys, h2, h3, h4⟩ := h
  subst h3
  exact call_len_list h1 (by rw [List.size_toArray]; omega) (by simpa using hQ _ _)
theorem item_SL {value slice : PySem.Expr} {a : Addr} {n : Nat} {k : Int} {u : Tok} (h : SLat s.heap a n) (h0 : 0 ≤ k) (h1 : k < n) (hn : n ≤ 1000) (hQ : ∀ y t, y.length ≤ 20 → Q (.str y t) s)
    (hs : subscripted slice false (.ref a) (.int k u) = operate [.ref a, .int k u] (getItem (.ref a) (.int k u)) := by with_unfolding_all rfl) :
    wpAny (model prog w) A (subscriptTail value slice (.ref a) (.int k u)) Q E s := by
  obtain ⟨vs, h2, ys, h3, h4, h5⟩ := h
  have hlt : k.toNat < ys.length := by rw [← h3.length, h4]; omega
  obtain ⟨t, ht⟩ := h3.get k.toNat ys[k.toNat] (List.getElem?_eq_getElem hlt)
  exact item_litK h2 h0 (by omega) ht (hQ _ _ (h5 _ (List.getElem_mem hlt))) hs
end
local macro_rules | `(tactic| walk_at "sl_at") => `(tactic| first | exact SLat.ofN (by k_asm) (by news_mem) (by k_all) | exact SLat.ofL (by k_asm) (by news_mem) (by k_all) | exact SLat.ofOne (by k_asm) (by news_mem) (by decide +kernel) | exact SLat.ofK (at_often _) (by k_asm) (by k_asm) (by decide +kernel) | exact SLat.ofK (at_rest _) (by k_asm) (by k_asm) (by decide +kernel) | exact SLat.ofK (at_signs _) (by k_asm) (by k_asm) (by decide +kernel) | exact SLat.ofK (at_begins _) (by k_asm) (by k_asm) (by decide +kernel) | exact SLat.ofK (at_first _) (by k_asm) (by k_asm) (by decide +kernel) | exact SLat.ofK (at_pairs _) (by k_asm) (by k_asm) (by decide +kernel) | exact SLat.ofK (at_third _) (by k_asm) (by k_asm) (by decide +kernel))
local macro_rules | `(tactic| walk_at "binaryOp Add ref ref") => `(tactic| (k_here; k_dflt (refine' add_SL ?F ?N ?a ?b ?n ?_; (case F | N => k_asm); (case a | b => walk_at "sl_at"); (case n => decide); k_whole); intro D' vs' h' hSL' F' N' l1; (try k_sweep)))
local macro_rules | `(tactic| walk_at "eval Name") => `(tactic| (k_here; k_dflt (refine' ldLoc ?k1 ?k2 ?_; (case k1 => k_asm); (case k2 => first | with_reducible assumption | exact rfl | assumption); k_whole)))
local macro_rules | `(tactic| walk_at "eval ListComp") => `(tactic| (k_here; refine stop_at ?_))
local macro_rules | `(tactic| walk_at "exec Assign cons ListComp") => `(tactic| (k_here; refine stop_at ?_))
local macro_rules | `(tactic| walk_at "exec For Name Subscript cons nil") => `(tactic| (k_here; refine stop_at ?_))
/-- behind a statement of the law -/
inductive LP0 (sg : Array GenState) (sd : Drawn) (so : OsState) (h₀ : Heap) (L : Addr) (l : Addr) (co : Obj) (f : Flow) (s' : Shared) : Prop
  | mk (e : f = .next) (h' : Heap) (tk' : Tok) (m' : Str → Option Value) (lp : Addr) (vp : List Value) (e0 : s' = ⟨h', sg, sd, tk', so⟩) (e1 : Fr h₀ L h' m') (e2 : News h₀ L h' [(lp, W.listOf (List.toArray vp) 0), (L + 1, co)]) (e3 : m' (Str.ofString "pieces") = some (.ref lp)) (e4 : m' (Str.ofString "script") = some (.ref l)) (e5 : SL 123 vp)
set_option maxHeartbeats 4000000 in
theorem law_pieces (w : World) {mean : ExcName → Option Value} {mg mb : Str → Option Value} {h₀ : Heap} {L fa : Addr} {cd : Value} {sh : Heap} {sg : Array GenState} {sd : Drawn} {tk0 : Tok} {so : OsState} {m : Str → Option Value}
    {name qual : Str} {params : Arguments} {body : List Stmt} {scope : Scope} {dV kV doc pm cdv ct oc : Value} {an od : Option Addr} {osl : Array (Option Value)} {l : Addr} {co : Obj}
    (ho : (KF w.params).lookup 571 = some ⟨oc, od, .func (fnOf name qual params body scope dV kV doc pm an cdv ct), osl⟩)
    (X : (KF w.params).In h₀) (T : Top vq (looseW vq vloose) mean mg mb h₀) (B : Below callerA h₀ [] h₀) (F : Fr h₀ L sh m) (hm : m (Str.ofString "script") = some (.ref l)) (N : News h₀ L sh [(L + 1, co)]) :
    ∀ st, body[0]? = some st → wpAny (model pw w) (callerA.deeper (envOfC (Str.ofString "law") scope L fa cd)) (exec st (envOfC (Str.ofString "law") scope L fa cd)) (fun f s' => Stop (LP0 sg sd so h₀ L l co f s')) (fun _ _ => False) ⟨sh, sg, sd, tk0, so⟩ := by
  refine' law_open (C := fun body scope => ∀ st, body[0]? = some st → wpAny (model pw w) (callerA.deeper (envOfC (Str.ofString "law") scope L fa cd)) (exec st (envOfC (Str.ofString "law") scope L fa cd)) (fun f s' => Stop (LP0 sg sd so h₀ L l co f s')) (fun _ _ => False) ⟨sh, sg, sd, tk0, so⟩) ho ?k ?_
  case k => k_is
  clear ho
  rintro st hst
  obtain rfl := Option.some.inj hst
  clear hst
  have hAf : callerA.frames = some [] := B.stack
  walk_at "m_steps"
  refine unstop23 ?_
  rename Fr h₀ L _ m => F1
  rename News h₀ L _ _ => N1
  obtain ⟨vs0, hl0, hs0⟩ := (at_stays w.params).isList X
  refine LCg.ListComp_U (h₀ := h₀) (L := L) (m := m) F1 (by with_unfolding_all rfl) (by decide) (by rfl) (by decide) (by rfl) ?_
  walk_at "m_steps"
  refine LCg.CompSrc.base (its := vs0.toArray) (by rfl) F1 N1 hl0 (by show vs0.length ≤ sizeLine; rw [hs0.length]; decide) ?_
  intro g1
  show LCg.CompRest _ _ _ _ _ _ _ _ _ _ _ _ _ _ _ vs0.length 0 [] _
  rw [show vs0.length = 21 from hs0.length]
  refine comp_strs 21 ?turn ?fin 21 0 [] ⟨[], .nil, rfl, fun y hy => nomatch hy⟩ rfl
  case turn =>
    rintro ys v I oI C oC D m2 h2 tk2 E' ⟨i, hv⟩ hC hx F2 N2 off ne
    obtain ⟨y, t, rfl, hy⟩ := hs0.item i v (by simpa using hv)
    have hyl := stays_len y (List.mem_of_getElem? hy)
    clear F1 N1
    walk_at "m_steps"
    exact LCg.CompEnd.intro F2 N2 _ (fun p hp => hp) off (Or.inl hl0) ⟨rfl, _, _, rfl, len_et hyl⟩
  case fin =>
    intro ys hys
    intro D h tk F2 N2 o1
    dsimp only
    clear F1 N1
    walk_at "m_steps"
    rename Fr h₀ L _ _ => F3
    rename News h₀ L _ _ => N3
    rename SL _ _ => hs9
    refine unstop23 ⟨by first | rfl | trivial, _, _, _, _, _, rfl, F3, news_of_mem N3 ?sub, rfl, hm, hs9⟩
    intro p hp
    rcases List.mem_cons.mp hp with rfl | hp
    · exact List.Mem.head _
    · rw [List.mem_singleton.mp hp]; simp
end
-- W24
section
open PySem PySem.W PySem.Calls PyProof.Rows PySem.Spec

theorem unstop24 {P : Prop} (h : P) : Stop P := by unfold Stop; exact h
theorem stopped24 {P : Prop} (h : Stop P) : P := by unfold Stop at h; exact h
local macro_rules | `(tactic| walk_at "eval Name") => `(tactic| (k_here; k_dflt (refine' ldLoc ?k1 ?k2 ?_; (case k1 => k_asm); (case k2 => first | with_reducible assumption | exact rfl | assumption); k_whole)))
local macro_rules | `(tactic| walk_at "call builtin:len") => `(tactic| (k_here; (with_reducible show wpAny _ _ (call (Value.builtin "len") [Value.ref _]) _ _ _); k_dflt (refine' len_SL ?k1 ?k2 ?_; (case k1 => exact SLat.ofN (by k_asm) (by news_mem) (by k_all)); (case k2 => decide); k_whole); intro tl kl; dsimp only))
local macro_rules | `(tactic| walk_at "subscriptTail Name BinOp ref int") => `(tactic| (k_here; k_dflt (refine' item_SL ?k1 ?k2 ?k3 ?k4 ?_ ?k6; (case k1 => exact SLat.ofN (by k_asm) (by news_mem) (by k_all)); (case k2 => exact (fm123 _).1); (case k3 => exact (fm123 _).2); (case k4 => decide); (case k6 => with_unfolding_all rfl); k_whole); intro y9 t9 hy9))
local macro_rules | `(tactic| walk_at "pyIter ref") => `(tactic| (k_here; refine stop_at ?_))
local macro_rules | `(tactic| walk_at "eval ListComp") => `(tactic| (k_here; refine stop_at ?_))
local macro_rules | `(tactic| walk_at "exec Assign cons ListComp") => `(tactic| (k_here; refine stop_at ?_))
local macro_rules | `(tactic| walk_at "exec For Name Subscript cons nil") => `(tactic| (k_here; refine stop_at ?_))
/-- behind a statement of the law -/
inductive LP2 (sg : Array GenState) (sd : Drawn) (so : OsState) (h₀ : Heap) (L : Addr) (lw : Addr) (co : Obj) (f : Flow) (s' : Shared) : Prop
  | mk (e : f = .next) (h' : Heap) (tk' : Tok) (m' : Str → Option Value) (a b : Str) (ta tb : Tok) (e0 : s' = ⟨h', sg, sd, tk', so⟩) (e1 : Fr h₀ L h' m') (e2 : News h₀ L h' [(lw, W.listOf [.str a ta, .str b tb].toArray 0), (L + 1, co)]) (e3 : m' (Str.ofString "words") = some (.ref lw)) (e4 : a.length ≤ 28) (e5 : b.length ≤ 28)
set_option maxHeartbeats 4000000 in
theorem law_loop (w : World) {mean : ExcName → Option Value} {mg mb : Str → Option Value} {h₀ : Heap} {L fa : Addr} {cd : Value} {sh : Heap} {sg : Array GenState} {sd : Drawn} {tk0 : Tok} {so : OsState} {m : Str → Option Value}
    {name qual : Str} {params : Arguments} {body : List Stmt} {scope : Scope} {dV kV doc pm cdv ct oc : Value} {an od : Option Addr} {osl : Array (Option Value)} {l lp lw : Addr} {co : Obj} {vs vp : List Value} {ns : List Int} {t1 t2 : Tok}
    (ho : (KF w.params).lookup 571 = some ⟨oc, od, .func (fnOf name qual params body scope dV kV doc pm an cdv ct), osl⟩)
    (X : (KF w.params).In h₀) (T : Top vq (looseW vq vloose) mean mg mb h₀) (B : Below callerA h₀ [] h₀) (F : Fr h₀ L sh m) (hl : h₀.IsList l vs.toArray) (hi : IntsAre vs ns) (hlen : ns.length ≤ 63) (j1 : m (Str.ofString "pieces") = some (.ref lp)) (j2 : m (Str.ofString "script") = some (.ref l)) (j3 : m (Str.ofString "words") = some (.ref lw)) (hvp : SL 123 vp) (lt2 : lp < lw ∧ L + 1 < lw) (N : News h₀ L sh [(lw, W.listOf [.str (Str.ofString "") t1, .str (Str.ofString "") t2].toArray 0), (lp, W.listOf vp.toArray 0), (L + 1, co)]) :
    ∀ st, body[2]? = some st → wpAny (model pw w) (callerA.deeper (envOfC (Str.ofString "law") scope L fa cd)) (exec st (envOfC (Str.ofString "law") scope L fa cd)) (fun f s' => Stop (LP2 sg sd so h₀ L lw co f s')) (fun _ _ => False) ⟨sh, sg, sd, tk0, so⟩ := by
  refine' law_open (C := fun body scope => ∀ st, body[2]? = some st → wpAny (model pw w) (callerA.deeper (envOfC (Str.ofString "law") scope L fa cd)) (exec st (envOfC (Str.ofString "law") scope L fa cd)) (fun f s' => Stop (LP2 sg sd so h₀ L lw co f s')) (fun _ _ => False) ⟨sh, sg, sd, tk0, so⟩) ho ?k ?_
  case k => k_is
  clear ho
  rintro st hst
  obtain rfl := Option.some.inj hst
  clear hst
  have hAf : callerA.frames = some [] := B.stack
  have F2 := F
  have N2 := N
  clear F N
  replace lt2 := And.intro (ltN lt2.1) (ltN lt2.2)
  with_unfolding_all refine' For_invVF F2 ?k1 ?k2 ?_
  case k1 => exact rfl
  case k2 => exact rfl
  walk_at "m_steps"
  refine unstop24 ?_
  rename Fr h₀ L _ _ => F3
  rename News h₀ L _ _ => N3
  rename IntsAre _ (List.take 20 ns) => hi3
  rename_i us _ _ lt3 _
  have hus : us.length ≤ 20 := by rw [hi3.length]; simp only [List.length_take]; omega
  refine for_list (fun _ => LawJ lp lw (L + 1) vp co) (by rfl) (News.isList N3 (List.Mem.head _)) ?hLx ?hnx F3 (news_of_mem N3 fun p hp => List.Mem.tail _ hp) ⟨j1, j3, _, _, _, _, rfl, by decide, by decide⟩ ?turn ?done
  case hLx => exact fun h => (N3 _ (List.Mem.head _)).2.1 h.symm
  case hnx =>
    rename (lw < _ ∧ _) => lt4
    intro p hp
    rcases List.mem_cons.mp hp with rfl | hp
    · exact Nat.ne_of_lt lt4.1
    rcases List.mem_cons.mp hp with rfl | hp
    · exact Nat.ne_of_lt lt4.2.1
    · rw [List.mem_singleton.mp hp]; exact Nat.ne_of_lt lt4.2.2
  case done =>
    rintro m₁ nx h tk' ⟨k1, k2, a, b, ta, tb, rfl, la, lb⟩ F4 N4
    refine unstop24 ⟨by first | rfl | trivial, _, _, _, a, b, ta, tb, rfl, F4, news_of_mem N4 ?sub, k2, la, lb⟩
    intro p hp
    rcases List.mem_cons.mp hp with rfl | hp
    · exact List.Mem.head _
    · rw [List.mem_singleton.mp hp]; simp
  case turn =>
    rintro i v m4 nx h4 tk4 own hv ha ho ⟨k1, k2, a, b, ta, tb, rfl, la, lb⟩ F4 N4
    obtain ⟨n, t, rfl, hn⟩ := hi3.at i v hv
    clear F3 N3
    simp only [List.cons_append, List.nil_append] at N4
    walk_at "m_steps"
    all_goals (rename Fr h₀ L _ _ => F8; rename News h₀ L _ _ => N8; first | exact law_turn_end F8 N8 k1 k2 (by omega) (by omega) | exact law_turn_end F8 N8 k1 k2 (by rw [len_app1]; omega) (by omega) | exact law_turn_end F8 N8 k1 k2 (by omega) (by rw [len_app1]; omega))
end
-- W25
section
open PySem PySem.W PySem.Calls PyProof.Rows PySem.Spec

theorem unstop25 {P : Prop} (h : P) : Stop P := by unfold Stop; exact h
theorem stopped25 {P : Prop} (h : Stop P) : P := by unfold Stop at h; exact h
set_option hygiene false in
local macro_rules | `(tactic| walk_at "call ref") => `(tactic| (k_here; k_dflt (apply FnK.use (c_lawStem _ _ _ ?hv); (case F | B | X | N | T => k_asm); (case hh => walk_at "hh"); (case hA => exact Around.frames_deeper (by k_all)); (case hf | hk => exact rfl); (case hd => (simp only [depth_deeper, depth_caller]; decide)); (case hu => (simp only [units_deeper]; decide)); (case hv => first | with_reducible assumption | omega | assumption); k_whole); intro _ _ _ _ _ _ _; (try k_sweep)))
local macro_rules | `(tactic| walk_at "eval Name") => `(tactic| (k_here; k_dflt (refine' ldLoc ?k1 ?k2 ?_; (case k1 => k_asm); (case k2 => first | with_reducible assumption | exact rfl | assumption); k_whole)))
local macro_rules | `(tactic| walk_at "eval ListComp") => `(tactic| (k_here; refine stop_at ?_))
local macro_rules | `(tactic| walk_at "exec Assign cons ListComp") => `(tactic| (k_here; refine stop_at ?_))
local macro_rules | `(tactic| walk_at "exec For Name Subscript cons nil") => `(tactic| (k_here; refine stop_at ?_))
/-- behind a statement of the law -/
inductive LP3 (sg : Array GenState) (sd : Drawn) (so : OsState) (h₀ : Heap) (L : Addr) (lw : Addr) (co : Obj) (a b : Str) (ta tb : Tok) (f : Flow) (s' : Shared) : Prop
  | mk (e : f = .next) (h' : Heap) (tk' : Tok) (m' : Str → Option Value) (ld : Addr) (d0 d1 : Str) (t0 t1 : Tok) (e0 : s' = ⟨h', sg, sd, tk', so⟩) (e1 : Fr h₀ L h' m') (e2 : News h₀ L h' [(ld, LCg.lst [.str d0 t0, .str d1 t1]), (lw, W.listOf [.str a ta, .str b tb].toArray 0), (L + 1, co)]) (e3 : m' (Str.ofString "words") = some (.ref lw)) (e4 : m' (Str.ofString "due") = some (.ref ld)) (e5 : LawR a d0) (e6 : LawR b d1) (e7 : (lw ≠ ld ∧ L + 1 ≠ ld))
set_option maxHeartbeats 4000000 in
theorem law_due (w : World) {mean : ExcName → Option Value} {mg mb : Str → Option Value} {h₀ : Heap} {L fa : Addr} {cd : Value} {sh : Heap} {sg : Array GenState} {sd : Drawn} {tk0 : Tok} {so : OsState} {m : Str → Option Value}
    {name qual : Str} {params : Arguments} {body : List Stmt} {scope : Scope} {dV kV doc pm cdv ct oc : Value} {an od : Option Addr} {osl : Array (Option Value)} {lw : Addr} {co : Obj} {a b : Str} {ta tb : Tok}
    (ho : (KF w.params).lookup 571 = some ⟨oc, od, .func (fnOf name qual params body scope dV kV doc pm an cdv ct), osl⟩)
    (X : (KF w.params).In h₀) (T : Top vq (looseW vq vloose) mean mg mb h₀) (B : Below callerA h₀ [] h₀) (F : Fr h₀ L sh m) (k2 : m (Str.ofString "words") = some (.ref lw)) (la : a.length ≤ 28) (lb : b.length ≤ 28) (N : News h₀ L sh [(lw, W.listOf [.str a ta, .str b tb].toArray 0), (L + 1, co)]) :
    ∀ st, body[3]? = some st → wpAny (model pw w) (callerA.deeper (envOfC (Str.ofString "law") scope L fa cd)) (exec st (envOfC (Str.ofString "law") scope L fa cd)) (fun f s' => Stop (LP3 sg sd so h₀ L lw co a b ta tb f s')) (fun _ _ => False) ⟨sh, sg, sd, tk0, so⟩ := by
  refine' law_open (C := fun body scope => ∀ st, body[3]? = some st → wpAny (model pw w) (callerA.deeper (envOfC (Str.ofString "law") scope L fa cd)) (exec st (envOfC (Str.ofString "law") scope L fa cd)) (fun f s' => Stop (LP3 sg sd so h₀ L lw co a b ta tb f s')) (fun _ _ => False) ⟨sh, sg, sd, tk0, so⟩) ho ?k ?_
  case k => k_is
  clear ho
  rintro st hst
  obtain rfl := Option.some.inj hst
  clear hst
  have hAf : callerA.frames = some [] := B.stack
  refine LCg.Assign_ListComp_U (F₀ := F) (by rfl) (by with_unfolding_all rfl) (by rfl) (by decide) (by rfl) (by decide) (by rfl) (by rfl) (by rfl) ?_
  walk_at "m_steps"
  rename LawR a _ => fa1
  rename LawR b _ => fb1
  rename Fr h₀ L _ _ => F8
  rename News h₀ L _ _ => N8
  exact unstop25 ⟨by first | rfl | trivial, _, _, _, _, _, _, _, _, rfl, F8, N8, k2, rfl, fa1, fb1, by assumption⟩
/-- behind a statement of the law -/
inductive LP4 (sg : Array GenState) (sd : Drawn) (so : OsState) (h₀ : Heap) (L : Addr) (w : World) (m : Str → Option Value) (ld lw : Addr) (a b d0 d1 : Str) (ta tb td0 td1 : Tok) (f : Flow) (s' : Shared) : Prop
  | mk (e : f = .next) (h' : Heap) (tk' : Tok) (x dx : Addr) (o oc : Obj) (e0 : s' = ⟨h', sg, sd, tk', so⟩) (e1 : Fr h₀ L h' m) (e2 : DictIs w.params ⟨Str.ofString "", 0, 0, 0, 0, 0, none⟩ o) (e3 : oc.data = .cell (some (.ref x))) (e4 : News h₀ L h' [(x, instObj 494 dx), (dx, o), (ld, LCg.lst [.str d0 td0, .str d1 td1]), (lw, W.listOf [.str a ta, .str b tb].toArray 0), (L + 1, oc)]) (e5 : x ≠ dx) (e6 : ld ≠ dx) (e7 : lw ≠ dx) (e8 : L + 1 ≠ dx)
set_option maxHeartbeats 4000000 in
theorem law_new (w : World) {mean : ExcName → Option Value} {mg mb : Str → Option Value} {h₀ : Heap} {L fa : Addr} {cd : Value} {sh : Heap} {sg : Array GenState} {sd : Drawn} {tk0 : Tok} {so : OsState} {m : Str → Option Value}
    {name qual : Str} {params : Arguments} {body : List Stmt} {scope : Scope} {dV kV doc pm cdv ct oc : Value} {an od : Option Addr} {osl : Array (Option Value)} {lw ld : Addr} {co : Obj} {a b d0 d1 : Str} {ta tb td0 td1 : Tok}
    (ho : (KF w.params).lookup 571 = some ⟨oc, od, .func (fnOf name qual params body scope dV kV doc pm an cdv ct), osl⟩)
    (X : (KF w.params).In h₀) (T : Top vq (looseW vq vloose) mean mg mb h₀) (B : Below callerA h₀ [] h₀) (F : Fr h₀ L sh m) (nld : lw ≠ ld ∧ L + 1 ≠ ld) (hco : co.data = .cell none) (N : News h₀ L sh [(ld, LCg.lst [.str d0 td0, .str d1 td1]), (lw, W.listOf [.str a ta, .str b tb].toArray 0), (L + 1, co)]) (ltc : L + 1 < lw) :
    ∀ st, body[4]? = some st → wpAny (model pw w) (callerA.deeper (envOfC (Str.ofString "law") scope L fa cd)) (exec st (envOfC (Str.ofString "law") scope L fa cd)) (fun f s' => Stop (LP4 sg sd so h₀ L w m ld lw a b d0 d1 ta tb td0 td1 f s')) (fun _ _ => False) ⟨sh, sg, sd, tk0, so⟩ := by
  refine' law_open (C := fun body scope => ∀ st, body[4]? = some st → wpAny (model pw w) (callerA.deeper (envOfC (Str.ofString "law") scope L fa cd)) (exec st (envOfC (Str.ofString "law") scope L fa cd)) (fun f s' => Stop (LP4 sg sd so h₀ L w m ld lw a b d0 d1 ta tb td0 td1 f s')) (fun _ _ => False) ⟨sh, sg, sd, tk0, so⟩) ho ?k ?_
  case k => k_is
  clear ho
  rintro st hst
  obtain rfl := Option.some.inj hst
  clear hst
  have hAf : callerA.frames = some [] := B.stack
  replace ltc := ltN ltc
  replace nld := And.intro (neN nld.1) (neN nld.2)
  walk_at "m_steps"
  rename Fr h₀ L _ _ => F7
  rename News h₀ L _ _ => N7
  exact unstop25 ⟨by first | rfl | trivial, _, _, _, _, _, _, rfl, F7, dict_none, by assumption, N7, by k_ne, by k_ne, by k_ne, by k_ne⟩
end
-- W26
section
open PySem PySem.W PySem.Calls PyProof.Rows PySem.Spec

theorem unstop26 {P : Prop} (h : P) : Stop P := by unfold Stop; exact h
theorem stopped26 {P : Prop} (h : Stop P) : P := by unfold Stop at h; exact h
set_option hygiene false in
local macro_rules | `(tactic| walk_at "call ref") => `(tactic| (k_here; k_dflt (apply MethCT.useL (c_stemWordT _ _ _ ?hv); (case F | B | X | N | T => k_asm); (case hh => walk_at "hh"); (case hx => k_mem); (case Up => k_updF); (case hA => exact Around.frames_deeper (by k_all)); (case hf | hk => exact rfl); (case hd => (simp only [depth_deeper, depth_caller]; decide)); (case hu => (simp only [units_deeper]; decide)); (case hσ => first | exact dict_some | exact dict_none); (case hp => exact True.intro); (case hv => first | with_reducible assumption | omega | assumption); k_whole); repeat (with_reducible intro _); (try k_sweep)))
local macro_rules | `(tactic| walk_at "eval Name") => `(tactic| (k_here; k_dflt (refine' ldLoc ?k1 ?k2 ?_; (case k1 => k_asm); (case k2 => first | with_reducible assumption | exact rfl | assumption); k_whole)))
local macro_rules | `(tactic| walk_at "CompRest") => `(tactic| (k_here; refine stop_at ?_))
local macro_rules | `(tactic| walk_at "CompEnd") => `(tactic| (k_here; refine stop_at ?_))
/-- behind a statement of the law -/
inductive LP5 (sg : Array GenState) (sd : Drawn) (so : OsState) (h₀ : Heap) (L : Addr) (w : World) (lw ld x dx : Addr) (a b d0 d1 : Str) (ta tb td0 td1 : Tok) (oc₁ : Obj) (f : Flow) (s' : Shared) : Prop
  | mk (e : f = .next) (h' : Heap) (tk' : Tok) (m' : Str → Option Value) (lt : Addr) (o : Obj) (t0 t1 t2 : Tok) (σ : St) (e0 : s' = ⟨h', sg, sd, tk', so⟩) (e1 : Fr h₀ L h' m') (e2 : News h₀ L h' [(lt, LCg.lst [.str d0 t0, .str d0 t1, .str d1 t2]), (x, instObj 494 dx), (dx, o), (ld, LCg.lst [.str d0 td0, .str d1 td1]), (lw, W.listOf [.str a ta, .str b tb].toArray 0), (L + 1, oc₁)]) (e3 : m' (Str.ofString "words") = some (.ref lw)) (e4 : m' (Str.ofString "due") = some (.ref ld)) (e5 : m' (Str.ofString "told") = some (.ref lt)) (e6 : DictIs w.params σ o) (e7 : σ.p1.isSome = true) (e8 : lt ≠ dx)
set_option maxHeartbeats 4000000 in
theorem law_told (w : World) {mean : ExcName → Option Value} {mg mb : Str → Option Value} {h₀ : Heap} {L fa : Addr} {cd : Value} {sh : Heap} {sg : Array GenState} {sd : Drawn} {tk0 : Tok} {so : OsState} {m : Str → Option Value}
    {name qual : Str} {params : Arguments} {body : List Stmt} {scope : Scope} {dV kV doc pm cdv ct oc : Value} {an od : Option Addr} {osl : Array (Option Value)} {lw ld x dx : Addr} {o oc₁ : Obj} {a b d0 d1 : Str} {ta tb td0 td1 : Tok}
    (ho : (KF w.params).lookup 571 = some ⟨oc, od, .func (fnOf name qual params body scope dV kV doc pm an cdv ct), osl⟩)
    (X : (KF w.params).In h₀) (T : Top vq (looseW vq vloose) mean mg mb h₀) (B : Below callerA h₀ [] h₀) (F : Fr h₀ L sh m) (k3 : m (Str.ofString "words") = some (.ref lw)) (k4 : m (Str.ofString "due") = some (.ref ld)) (fa1 : LawR a d0) (fb1 : LawR b d1) (la : a.length ≤ 28) (lb : b.length ≤ 28) (hσ : DictIs w.params ⟨Str.ofString "", 0, 0, 0, 0, 0, none⟩ o) (hoc : oc₁.data = .cell (some (.ref x))) (N : News h₀ L sh [(x, instObj 494 dx), (dx, o), (ld, LCg.lst [.str d0 td0, .str d1 td1]), (lw, W.listOf [.str a ta, .str b tb].toArray 0), (L + 1, oc₁)]) (nx1 : x ≠ dx) (nx2 : ld ≠ dx) (nx3 : lw ≠ dx) (nx4 : L + 1 ≠ dx) :
    ∀ st, body[5]? = some st → wpAny (model pw w) (callerA.deeper (envOfC (Str.ofString "law") scope L fa cd)) (exec st (envOfC (Str.ofString "law") scope L fa cd)) (fun f s' => Stop (LP5 sg sd so h₀ L w lw ld x dx a b d0 d1 ta tb td0 td1 oc₁ f s')) (fun _ _ => False) ⟨sh, sg, sd, tk0, so⟩ := by
  refine' law_open (C := fun body scope => ∀ st, body[5]? = some st → wpAny (model pw w) (callerA.deeper (envOfC (Str.ofString "law") scope L fa cd)) (exec st (envOfC (Str.ofString "law") scope L fa cd)) (fun f s' => Stop (LP5 sg sd so h₀ L w lw ld x dx a b d0 d1 ta tb td0 td1 oc₁ f s')) (fun _ _ => False) ⟨sh, sg, sd, tk0, so⟩) ho ?k ?_
  case k => k_is
  clear ho
  rintro st hst
  obtain rfl := Option.some.inj hst
  clear hst
  have hAf : callerA.frames = some [] := B.stack
  obtain ⟨zk, rfl⟩ := kap6 hσ
  (try dsimp only at N)
  replace nx1 := neN nx1
  replace nx2 := neN nx2
  replace nx3 := neN nx3
  replace nx4 := neN nx4
  refine LCg.Assign_ListComp_U (F₀ := F) (by rfl) (by with_unfolding_all rfl) (by with_unfolding_all rfl) (by decide) (by rfl) (by decide) (by rfl) (by rfl) (by rfl) ?_
  walk_at "m_steps"
  refine unstop26 ?_
  rename Fr h₀ L _ _ => F1
  rename News h₀ L _ _ => N1
  refine LCg.CompRest.succ ?_
  intro v I oI C oC D m2 h tk E' hv hC hx F2 N2 off ne
  obtain rfl : Value.str a ta = v := Option.some.inj hv
  have off' := off.mem
  obtain ⟨q1, q2, q3⟩ : dx ≠ I ∧ dx ≠ C ∧ dx ≠ D := off' _ (List.Mem.tail _ (List.Mem.tail _ (List.Mem.head _)))
  replace q1 := neN (Ne.symm q1)
  replace q2 := neN (Ne.symm q2)
  replace q3 := neN (Ne.symm q3)
  clear off hv ne
  walk_at "m_steps"
  refine unstop26 ?_
  clear hC hx
  rename StemR _ _ => fS
  obtain rfl := stem_det fS fa1
  clear fS
  rename Fr h₀ L _ _ => F3
  rename News h₀ L _ _ => N3
  refine LCg.CompEnd.intro F3 N3 _ (fun p hp => hp) ?off1 (Or.inr ⟨_, List.Mem.head _, rfl, _, rfl⟩) ?_
  case off1 =>
    refine LCg.Off3.of fun p hp => ?_
    rcases List.mem_cons.mp hp with rfl | hp
    · exact off' _ (List.Mem.head _)
    rcases List.mem_cons.mp hp with rfl | hp
    · exact off' _ (List.Mem.tail _ (List.Mem.head _))
    rcases List.mem_cons.mp hp with rfl | hp
    · exact ⟨Ne.symm q1, Ne.symm q2, Ne.symm q3⟩
    · exact off' _ (List.Mem.tail _ (List.Mem.tail _ (List.Mem.tail _ hp)))
  clear off' q1 q2 q3 F3 N3
  try dsimp only [List.nil_append, List.cons_append]
  refine LCg.CompRest.succ ?_
  intro v I oI C oC D m2 h tk E' hv hC hx F2 N2 off ne
  obtain rfl : Value.str a ta = v := Option.some.inj hv
  have off' := off.mem
  obtain ⟨q1, q2, q3⟩ : dx ≠ I ∧ dx ≠ C ∧ dx ≠ D := off' _ (List.Mem.tail _ (List.Mem.tail _ (List.Mem.head _)))
  replace q1 := neN (Ne.symm q1)
  replace q2 := neN (Ne.symm q2)
  replace q3 := neN (Ne.symm q3)
  clear off hv ne
  walk_at "m_steps"
  refine unstop26 ?_
  clear hC hx
  rename StemR _ _ => fS
  obtain rfl := stem_det fS fa1
  clear fS
  rename Fr h₀ L _ _ => F3
  rename News h₀ L _ _ => N3
  refine LCg.CompEnd.intro F3 N3 _ (fun p hp => hp) ?off2 (Or.inr ⟨_, List.Mem.head _, rfl, _, rfl⟩) ?_
  case off2 =>
    refine LCg.Off3.of fun p hp => ?_
    rcases List.mem_cons.mp hp with rfl | hp
    · exact off' _ (List.Mem.head _)
    rcases List.mem_cons.mp hp with rfl | hp
    · exact off' _ (List.Mem.tail _ (List.Mem.head _))
    rcases List.mem_cons.mp hp with rfl | hp
    · exact ⟨Ne.symm q1, Ne.symm q2, Ne.symm q3⟩
    · exact off' _ (List.Mem.tail _ (List.Mem.tail _ (List.Mem.tail _ hp)))
  clear off' q1 q2 q3 F3 N3
  try dsimp only [List.nil_append, List.cons_append]
  refine LCg.CompRest.succ ?_
  intro v I oI C oC D m2 h tk E' hv hC hx F2 N2 off ne
  obtain rfl : Value.str b tb = v := Option.some.inj hv
  have off' := off.mem
  obtain ⟨q1, q2, q3⟩ : dx ≠ I ∧ dx ≠ C ∧ dx ≠ D := off' _ (List.Mem.tail _ (List.Mem.tail _ (List.Mem.head _)))
  replace q1 := neN (Ne.symm q1)
  replace q2 := neN (Ne.symm q2)
  replace q3 := neN (Ne.symm q3)
  clear off hv ne
  walk_at "m_steps"
  refine unstop26 ?_
  clear hC hx
  rename StemR _ _ => fS
  obtain rfl := stem_det fS fb1
  clear fS
  rename Fr h₀ L _ _ => F3
  rename News h₀ L _ _ => N3
  refine LCg.CompEnd.intro F3 N3 _ (fun p hp => hp) ?off3 (Or.inr ⟨_, List.Mem.head _, rfl, _, rfl⟩) ?_
  case off3 =>
    refine LCg.Off3.of fun p hp => ?_
    rcases List.mem_cons.mp hp with rfl | hp
    · exact off' _ (List.Mem.head _)
    rcases List.mem_cons.mp hp with rfl | hp
    · exact off' _ (List.Mem.tail _ (List.Mem.head _))
    rcases List.mem_cons.mp hp with rfl | hp
    · exact ⟨Ne.symm q1, Ne.symm q2, Ne.symm q3⟩
    · exact off' _ (List.Mem.tail _ (List.Mem.tail _ (List.Mem.tail _ hp)))
  clear off' q1 q2 q3 F3 N3
  try dsimp only [List.nil_append, List.cons_append]
  refine LCg.CompRest.zero ?_
  intro D5 h5 tk5 F5 N5 o5
  have o6 := off1_mem o5
  have hdD : dx ≠ D5 := o6 _ (List.Mem.tail _ (List.Mem.tail _ (List.Mem.head _)))
  have N6 := news_drop2 N5
  exact unstop26 ⟨by first | rfl | trivial, _, _, _, D5, _, _, _, _, _, rfl, F5, N6, k3, k4, rfl, dict_some, rfl, Ne.symm hdD⟩
end
-- W27
section
open PySem PySem.W PySem.Calls PyProof.Rows PySem.Spec

theorem unstop27 {P : Prop} (h : P) : Stop P := by unfold Stop; exact h
theorem stopped27 {P : Prop} (h : Stop P) : P := by unfold Stop at h; exact h
local macro_rules | `(tactic| walk_at "eval Name") => `(tactic| (k_here; k_dflt (refine' ldLoc ?k1 ?k2 ?_; (case k1 => k_asm); (case k2 => first | with_reducible assumption | exact rfl | assumption); k_whole)))
section
variable {prog : Program} {w : World} {A : Around} {E : Value → Shared → Prop} {s : Shared} {Q : Value → Shared → Prop}
theorem eq_strs_same {l b : Addr} {vs us : List Value} {ys : List Str} (hl : s.heap.IsList l vs.toArray) (hb : s.heap.IsList b us.toArray) (h1 : StrsAre vs ys) (h2 : StrsAre us ys) (hu : A.units < cLine) (h : Q (.bool true) s) :
    wpAny (model prog w) A (compareOp .Eq (.ref l) (.ref b)) Q E s := by
  refine SeqAt.eq_listAt (e := fun _ => true) hl hb (by rw [List.size_toArray, List.size_toArray, h1.length, h2.length]) hu (fun j j1 j2 => ?_) (by rw [List.all_eq_true.mpr fun _ _ => rfl]; exact h)
  have hj : j < ys.length := by rw [List.size_toArray, h1.length] at j1; exact j1
  obtain ⟨t, e1⟩ := h1.get j ys[j] (List.getElem?_eq_getElem hj)
  obtain ⟨u, e2⟩ := h2.get j ys[j] (List.getElem?_eq_getElem hj)
  have e3 : vs.toArray[j] = .str ys[j] t := by
    have := List.getElem?_eq_some_iff.mp e1
    obtain ⟨q, e⟩ := this
    simpa using e
  have e4 : us.toArray[j] = .str ys[j] u := by
    have := List.getElem?_eq_some_iff.mp e2
    obtain ⟨q, e⟩ := this
    simpa using e
  rw [e3, e4]
  have := SeqAt.EqAt.str_str (A := A.in1) (s := s) ys[j] t ys[j] u
  simpa using this
end
local macro_rules | `(tactic| walk_at "compareOp Eq ref ref") => `(tactic| (k_here; k_dflt (refine' eq_strs_same ?a ?b ?c ?d ?u ?_; (case a | b => exact News.isList (by k_asm) (by k_mem)); (case c | d => first | exact .cons _ _ (.cons _ _ (.cons _ _ .nil)) | exact .cons _ _ (.cons _ _ .nil)); (case u => (simp only [units_deeper]; decide)); k_whole)))
theorem stemWords_use (w : World) {mean : ExcName → Option Value} {mg mb : Str → Option Value} {A₀ A : Around} {h₀ : Heap} {env : Env} {L : Addr} {m : Str → Option Value} {s : Shared} {x dx lw : Addr} {o : Obj} {σ : St} {news : List (Addr × Obj)} {g : Obj → List (Addr × Obj)} {Q E : Value → Shared → Prop} {v1 v2 : Str} {t1 t2 : Tok} {k : Nat}
    (F : Fr h₀ L s.heap m) (B : Below A₀ h₀ [] h₀) (X : (KF w.params).In h₀) (N : News h₀ L s.heap news) (T : Top vq (looseW vq vloose) mean mg mb h₀) (hh : A.handled = none) (hx : (x, instObj 494 dx) ∈ news) (hl : (lw, W.listOf [.str v1 t1, .str v2 t2].toArray k) ∈ news) (Up : UpdF dx o news g)
    (hA : A.frames = some [env]) (hf : env.frame = some L) (hk : env.scope.kind = .function) (hd : A.depth + 20 < recursionLimit) (hu : A.units + 250 < cLine) (hσ : DictIs w.params σ o) (hp : σ.p1.isSome = true) (hv1 : v1.length ≤ 1000) (hv2 : v2.length ≤ 1000)
    (hQ : ∀ D r1 r2 t1' t2' o' h' tk', StemR v1 r1 → StemR v2 r2 → Fr h₀ L h' m → News h₀ L h' ((D, LCg.lst [.str r1 t1', .str r2 t2']) :: g o') → Q (.ref D) { s with heap := h', toks := tk' }) :
    wpAny (model pw w) A (call (.ref 194) [.ref x, .ref lw]) Q E s := by
  obtain ⟨pr, po, rfl, hg, a, b⟩ := Up.split
  have hdict : ∃ es n, o = dictOf es n := by
    unfold DictIs at hσ
    split at hσ
    · obtain ⟨zk, rfl⟩ := kap6 hσ; exact ⟨_, _, rfl⟩
    · obtain ⟨zk, rfl⟩ := kap7 hσ; exact ⟨_, _, rfl⟩
  have hxd : x ≠ dx := by
    rintro rfl
    have e1 := (N _ hx).1
    have e2 := (N (x, o) (by simp)).1
    rw [e1] at e2
    obtain ⟨es, n, rfl⟩ := hdict
    cases e2
  have hld : lw ≠ dx := by
    rintro rfl
    have e1 := (N _ hl).1
    have e2 := (N (lw, o) (by simp)).1
    rw [e1] at e2
    obtain ⟨es, n, rfl⟩ := hdict
    have e3 := congrArg Obj.data (Option.some.inj e2)
    cases e3
  refine m_stemWords w (rest := pr ++ po) (t1 := t1) (t2 := t2) (k := k) B F X (news_of_mem N fun p hp => ?_) T X T hh (fun p hp => ?_) hxd hld hA hf hk hd hu hσ hp hv1 hv2 fun D r1 r2 t1' t2' σ' o' h' tk' _ s1 s2 F' N' => hQ D r1 r2 t1' t2' o' h' tk' s1 s2 F' ?_
  · rcases List.mem_cons.mp hp with rfl | hp
    · exact hx
    rcases List.mem_cons.mp hp with rfl | hp
    · simp
    rcases List.mem_cons.mp hp with rfl | hp
    · exact hl
    · rcases List.mem_append.mp hp with h | h <;> simp [h]
  · rcases List.mem_append.mp hp with h | h
    · exact a p h
    · exact b p h
  · rw [hg]
    refine news_of_mem N' fun p hp => ?_
    rcases List.mem_cons.mp hp with rfl | hp
    · exact List.Mem.head _
    rcases List.mem_append.mp hp with h | h
    · simp [h]
    · rcases List.mem_cons.mp h with rfl | h
      · simp
      · simp [h]
local macro_rules | `(tactic| walk_at "call ref") => `(tactic| (k_here; (with_reducible show wpAny _ _ (call (Value.ref 194) _) _ _ _); k_dflt (refine' stemWords_use _ ?F ?B ?X ?N ?T ?hh ?hx ?hl ?Up ?hA ?hf ?hk ?hd ?hu ?hσ ?hp ?hv1 ?hv2 ?_; (case F | B | X | N | T => k_asm); (case hh => walk_at "hh"); (case hx | hl => k_mem); (case Up => k_updF); (case hA => exact Around.frames_deeper (by k_all)); (case hf | hk => exact rfl); (case hd => (simp only [depth_deeper, depth_caller]; decide)); (case hu => (simp only [units_deeper]; decide)); (case hσ => exact dict_some); (case hp => rfl); (case hv1 | hv2 => omega); k_whole); intro D9 s91 s92 t91 t92 o9 h9 tk9 f91 f92 F9 N9; (try dsimp only at N9); (have e91 := stem_det f91 (by k_all)); subst e91; (have e92 := stem_det f92 (by k_all)); subst e92; (try k_sweep)))
set_option maxHeartbeats 4000000 in
theorem law_ret (w : World) {mean : ExcName → Option Value} {mg mb : Str → Option Value} {h₀ : Heap} {L fa : Addr} {cd : Value} {sh : Heap} {sg : Array GenState} {sd : Drawn} {tk0 : Tok} {so : OsState} {m : Str → Option Value}
    {name qual : Str} {params : Arguments} {body : List Stmt} {scope : Scope} {dV kV doc pm cdv ct oc : Value} {an od : Option Addr} {osl : Array (Option Value)} {lw ld lt x dx : Addr} {o oc₁ : Obj} {a b d0 d1 : Str} {ta tb td0 td1 t0 t1 t2 : Tok} {σ : St}
    (ho : (KF w.params).lookup 571 = some ⟨oc, od, .func (fnOf name qual params body scope dV kV doc pm an cdv ct), osl⟩)
    (X : (KF w.params).In h₀) (T : Top vq (looseW vq vloose) mean mg mb h₀) (B : Below callerA h₀ [] h₀) (F : Fr h₀ L sh m) (k3 : m (Str.ofString "words") = some (.ref lw)) (k4 : m (Str.ofString "due") = some (.ref ld)) (k5 : m (Str.ofString "told") = some (.ref lt)) (fa1 : LawR a d0) (fb1 : LawR b d1) (la : a.length ≤ 28) (lb : b.length ≤ 28) (hσ : DictIs w.params σ o) (hp : σ.p1.isSome = true) (hoc : oc₁.data = .cell (some (.ref x))) (N : News h₀ L sh [(lt, LCg.lst [.str d0 t0, .str d0 t1, .str d1 t2]), (x, instObj 494 dx), (dx, o), (ld, LCg.lst [.str d0 td0, .str d1 td1]), (lw, W.listOf [.str a ta, .str b tb].toArray 0), (L + 1, oc₁)]) (nx1 : x ≠ dx) (nx2 : ld ≠ dx) (nx3 : lw ≠ dx) (nx4 : L + 1 ≠ dx) (nx5 : lt ≠ dx) :
    ∀ st, body[6]? = some st → wpAny (model pw w) (callerA.deeper (envOfC (Str.ofString "law") scope L fa cd)) (exec st (envOfC (Str.ofString "law") scope L fa cd)) (fun f s' => Stop (f = .ret (.bool true) ∧ ∃ h' tk' m', s' = ⟨h', sg, sd, tk', so⟩ ∧ Fr h₀ L h' m')) (fun _ _ => False) ⟨sh, sg, sd, tk0, so⟩ := by
  refine' law_open (C := fun body scope => ∀ st, body[6]? = some st → wpAny (model pw w) (callerA.deeper (envOfC (Str.ofString "law") scope L fa cd)) (exec st (envOfC (Str.ofString "law") scope L fa cd)) (fun f s' => Stop (f = .ret (.bool true) ∧ ∃ h' tk' m', s' = ⟨h', sg, sd, tk', so⟩ ∧ Fr h₀ L h' m')) (fun _ _ => False) ⟨sh, sg, sd, tk0, so⟩) ho ?k ?_
  case k => k_is
  clear ho
  rintro st hst
  obtain rfl := Option.some.inj hst
  clear hst
  have hAf : callerA.frames = some [] := B.stack
  obtain ⟨cur, c, lim, lb, bra, ket, p1⟩ := σ
  obtain ⟨p1, rfl⟩ := Option.isSome_iff_exists.mp hp
  obtain ⟨zk, rfl⟩ := kap7 hσ
  (try dsimp only at N)
  replace nx1 := neN nx1
  replace nx2 := neN nx2
  replace nx3 := neN nx3
  replace nx4 := neN nx4
  replace nx5 := neN nx5
  walk_at "m_steps"
  rename Fr h₀ L _ _ => F8
  exact unstop27 ⟨by first | rfl | trivial, _, _, _, rfl, F8⟩
end
-- W28
section
open PySem PySem.W PySem.Calls PyProof.Rows PySem.Spec

theorem unstop28 {P : Prop} (h : P) : Stop P := by unfold Stop; exact h
theorem stopped28 {P : Prop} (h : Stop P) : P := by unfold Stop at h; exact h
/-- behind a statement of the law -/
inductive LP1 (sg : Array GenState) (sd : Drawn) (so : OsState) (h₀ : Heap) (L : Addr) (l lp : Addr) (vp : List Value) (co : Obj) (f : Flow) (s' : Shared) : Prop
  | mk (e : f = .next) (h' : Heap) (tk' : Tok) (m' : Str → Option Value) (lw : Addr) (t1 t2 : Tok) (e0 : s' = ⟨h', sg, sd, tk', so⟩) (e1 : Fr h₀ L h' m') (e2 : News h₀ L h' [(lw, W.listOf [.str (Str.ofString "") t1, .str (Str.ofString "") t2].toArray 0), (lp, W.listOf vp.toArray 0), (L + 1, co)]) (e3 : m' (Str.ofString "pieces") = some (.ref lp)) (e4 : m' (Str.ofString "script") = some (.ref l)) (e5 : m' (Str.ofString "words") = some (.ref lw)) (e6 : (lp < lw ∧ L + 1 < lw))
set_option maxHeartbeats 4000000 in
theorem law_words (w : World) {mean : ExcName → Option Value} {mg mb : Str → Option Value} {h₀ : Heap} {L fa : Addr} {cd : Value} {sh : Heap} {sg : Array GenState} {sd : Drawn} {tk0 : Tok} {so : OsState} {m : Str → Option Value}
    {name qual : Str} {params : Arguments} {body : List Stmt} {scope : Scope} {dV kV doc pm cdv ct oc : Value} {an od : Option Addr} {osl : Array (Option Value)} {l lp : Addr} {co : Obj} {vp : List Value}
    (ho : (KF w.params).lookup 571 = some ⟨oc, od, .func (fnOf name qual params body scope dV kV doc pm an cdv ct), osl⟩)
    (X : (KF w.params).In h₀) (T : Top vq (looseW vq vloose) mean mg mb h₀) (B : Below callerA h₀ [] h₀) (F : Fr h₀ L sh m) (j1 : m (Str.ofString "pieces") = some (.ref lp)) (j2 : m (Str.ofString "script") = some (.ref l)) (N : News h₀ L sh [(lp, W.listOf vp.toArray 0), (L + 1, co)]) :
    ∀ st, body[1]? = some st → wpAny (model pw w) (callerA.deeper (envOfC (Str.ofString "law") scope L fa cd)) (exec st (envOfC (Str.ofString "law") scope L fa cd)) (fun f s' => Stop (LP1 sg sd so h₀ L l lp vp co f s')) (fun _ _ => False) ⟨sh, sg, sd, tk0, so⟩ := by
  refine' law_open (C := fun body scope => ∀ st, body[1]? = some st → wpAny (model pw w) (callerA.deeper (envOfC (Str.ofString "law") scope L fa cd)) (exec st (envOfC (Str.ofString "law") scope L fa cd)) (fun f s' => Stop (LP1 sg sd so h₀ L l lp vp co f s')) (fun _ _ => False) ⟨sh, sg, sd, tk0, so⟩) ho ?k ?_
  case k => k_is
  clear ho
  rintro st hst
  obtain rfl := Option.some.inj hst
  clear hst
  have hAf : callerA.frames = some [] := B.stack
  walk_at "m_steps"
  rename Fr h₀ L _ _ => F7
  rename News h₀ L _ _ => N7
  rename (lp < _ ∧ _) => lt7
  exact unstop28 ⟨by first | rfl | trivial, _, _, _, _, _, _, rfl, F7, N7, j1, j2, rfl, lt7⟩
theorem law_walk (w : World) {mean : ExcName → Option Value} {mg mb : Str → Option Value} {h₀ : Heap} {L fa l : Addr} {cd : Value} {vs : List Value} {ns : List Int} {sh : Heap} {sg : Array GenState} {sd : Drawn} {tk0 : Tok} {so : OsState} {m : Str → Option Value} {co : Obj} {Q : Flow → Shared → Prop} {E : Value → Shared → Prop}
    {name qual : Str} {params : Arguments} {body : List Stmt} {scope : Scope} {dV kV doc pm cdv ct oc : Value} {an od : Option Addr} {osl : Array (Option Value)}
    (ho : (KF w.params).lookup 571 = some ⟨oc, od, .func (fnOf name qual params body scope dV kV doc pm an cdv ct), osl⟩)
    (X : (KF w.params).In h₀) (T : Top vq (looseW vq vloose) mean mg mb h₀) (B : Below callerA h₀ [] h₀) (hl : h₀.IsList l vs.toArray) (hi : IntsAre vs ns) (hlen : ns.length ≤ 63)
    (F : Fr h₀ L sh m) (hm : m (Str.ofString "script") = some (.ref l)) (N : News h₀ L sh [(L + 1, co)]) (hco : co.data = .cell none)
    (hQ : ∀ h' tk' m', Fr h₀ L h' m' → Q (.ret (.bool true)) ⟨h', sg, sd, tk', so⟩) :
    wpAny (model pw w) (callerA.deeper (envOfC (Str.ofString "law") scope L fa cd)) (execs body (envOfC (Str.ofString "law") scope L fa cd)) Q E ⟨sh, sg, sd, tk0, so⟩ := by
  obtain ⟨s0, s1, s2, s3, s4, s5, s6, hb⟩ : ∃ s0 s1 s2 s3 s4 s5 s6, body = [s0, s1, s2, s3, s4, s5, s6] := by
    refine' law_open (C := fun body _ => ∃ s0 s1 s2 s3 s4 s5 s6, body = [s0, s1, s2, s3, s4, s5, s6]) ho ?k ?_
    case k => k_is
    exact ⟨_, _, _, _, _, _, _, rfl⟩
  rw [hb]
  have g0 : body[0]? = some s0 := by rw [hb]; rfl
  have g1 : body[1]? = some s1 := by rw [hb]; rfl
  have g2 : body[2]? = some s2 := by rw [hb]; rfl
  have g3 : body[3]? = some s3 := by rw [hb]; rfl
  have g4 : body[4]? = some s4 := by rw [hb]; rfl
  have g5 : body[5]? = some s5 := by rw [hb]; rfl
  have g6 : body[6]? = some s6 := by rw [hb]; rfl
  clear hb
  refine wpAny_execs_cons (wpAny_mono (law_pieces w ho X T B F hm N _ g0) ?_ (fun _ _ z => z.elim))
  rintro f s' hS
  obtain ⟨rfl, h1, tk1, m1, lp, vp, rfl, F1, N1, j1, j2, hvp⟩ := stopped28 hS
  refine wpAny_execs_cons (wpAny_mono (law_words w ho X T B F1 j1 j2 N1 _ g1) ?_ (fun _ _ z => z.elim))
  rintro f s' hS
  obtain ⟨rfl, h2, tk2, m2, lw, t1, t2, rfl, F2, N2, j1, j2, j3, lt2⟩ := stopped28 hS
  refine wpAny_execs_cons (wpAny_mono (law_loop w ho X T B F2 hl hi hlen j1 j2 j3 hvp lt2 N2 _ g2) ?_ (fun _ _ z => z.elim))
  rintro f s' hS
  obtain ⟨rfl, h3, tk3, m3, a, b, ta, tb, rfl, F3, N3, k2, la, lb⟩ := stopped28 hS
  refine wpAny_execs_cons (wpAny_mono (law_due w ho X T B F3 k2 la lb N3 _ g3) ?_ (fun _ _ z => z.elim))
  rintro f s' hS
  obtain ⟨rfl, h4, tk4, m4, ld, d0, d1, td0, td1, rfl, F4, N4, k3, k4, fa1, fb1, nld⟩ := stopped28 hS
  refine wpAny_execs_cons (wpAny_mono (law_new w ho X T B F4 nld hco N4 lt2.2 _ g4) ?_ (fun _ _ z => z.elim))
  rintro f s' hS
  obtain ⟨rfl, h5, tk5, x, dx, o, oc₁, rfl, F5, hσ, hoc, N5, nx1, nx2, nx3, nx4⟩ := stopped28 hS
  refine wpAny_execs_cons (wpAny_mono (law_told w ho X T B F5 k3 k4 fa1 fb1 la lb hσ hoc N5 nx1 nx2 nx3 nx4 _ g5) ?_ (fun _ _ z => z.elim))
  rintro f s' hS
  obtain ⟨rfl, h6, tk6, m6, lt, o6, t0, t1', t2', σ, rfl, F6, N6, k3, k4, k5, hσ, hp, nx5⟩ := stopped28 hS
  refine wpAny_execs_cons (wpAny_mono (law_ret w ho X T B F6 k3 k4 k5 fa1 fb1 la lb hσ hp hoc N6 nx1 nx2 nx3 nx4 nx5 _ g6) ?_ (fun _ _ z => z.elim))
  rintro f s' hS
  obtain ⟨rfl, h7, tk7, m7, rfl, F7⟩ := stopped28 hS
  exact hQ _ _ _ F7
end
-- W29
section
open PySem PySem.W PySem.Calls PyProof.Rows
/-- the law is well said: in pieces, a lemma each -/
theorem said29 : rwL.wellSaid = true := by
  delta OpenLaw.wellSaid
  repeat' (first | with_reducible refine look_both ?_ ?_ | (delta OpenRow.wellSaid) | (delta OpenRow.partSaid) | (delta looksOpen) | (delta OpenScript.wellSaid))
  all_goals decide +kernel
local macro_rules | `(tactic| k_qdec) => `(tactic| decide +kernel)
set_option maxHeartbeats 4000000 in
theorem headT : rwL.Holds := by
  w_on
  refine holds_law said29 fun said => ?_
  refine holds_open (q := vq) (loose := vloose) (Xt := vXt) (XP := XL vq []) (Yf := Hook.obs vH) (Ya := Hook.val vH) (YP := Hook.says vH) (N := 50000) left (Hook.of vH) (Hook.keeps vH) (fun s e => xl_of s (Bool.and_eq_true_iff.mp e).1) XL.keeps (by rfl) (by rfl) (by rfl) (fun s e => recFacts_of (Bool.and_eq_true_iff.mp e).2) (by rfl) (by first | assumption | decide +kernel) (by decide +kernel) ⟨rfl, rfl, rfl, rfl, rfl, by decide +kernel⟩ ?hw ?hc
  case hw => w_witness2
  case hc =>
    k_go0
    dsimp only at *
    rename (KF _).In _ => kKX
    rename Top _ _ _ _ _ _ => kT
    rename Below _ _ _ _ => kB
    rename Heap.IsList _ _ _ => kl
    rename IntsAre _ _ => ki
    rename ¬ _ < _ => kc
    rename Fr _ _ _ _ => kF
    rename News _ _ _ _ => kN
    rename Obj.data _ = _ => kd
    refine' law_walk _ ?ho kKX kT kB kl ki (by omega) kF ?hm kN kd ?hQ
    case ho => k_is
    case hm => rfl
    case hQ =>
      intro h' tk' m' F'
      dsimp only
      wrow_close
end
end
end
end
end
end Mine

theorem PySem.Challenge.cw_ip0002_01_holds : PySem.Challenge.rw_ip0002_01.Holds := by
  exact Mine.headT
