import PyProof.Rows.All
import Wide.All
import OpenK.AllK
import Wide.FinOn
import PySem.Sre
import PySem.Challenge.RW_pg0024_01
set_option Elab.async false
section
open PySem PySem.W PyProof.Rows
namespace Mine
set_option maxRecDepth 100000 in
set_option maxHeartbeats 8000000 in
open_top hd for PySem.Challenge.rw_pg0024_01
end Mine
end
section
open PySem PySem.W PyProof.Rows
namespace Mine
/-- a call's contract, from the law's frame: the def at f gives back R -/
abbrev ClV (prog : Program) (w : World) (K : Frag) (p : Program) (loose : List Str) (mean : ExcName → Option Value) (mg mb : Str → Option Value) (f : Addr) (news : List (Addr × Obj)) (vs : List Value) (R : Tok → Value) : Prop :=
  ∀ (cn : Str) (nm : List (Str × NameKind)) (ig ic : Bool) (mo : List (Str × Const)) (a : Addr) (ccd : Value) (base h₀ : Heap) (L : Addr) (m : Str → Option Value) (s : Shared) (Q E : Value → Shared → Prop),
    Below callerA base [] h₀ → Fr h₀ L s.heap m → K.In h₀ → News h₀ L s.heap news → Top p loose mean mg mb h₀ → CbRet h₀ L m news s Q R →
      wpAny (model prog w) (callerA.deeper (envOf cn { kind := .function, names := nm, isGenerator := ig, isCoroutine := ic, more := mo } L a ccd)) (call (.ref f) vs) Q E s
/-- a call's contract: the def at f gives back a new list of the ints ns -/
abbrev ClL (prog : Program) (w : World) (K : Frag) (p : Program) (loose : List Str) (mean : ExcName → Option Value) (mg mb : Str → Option Value) (f : Addr) (news : List (Addr × Obj)) (pre : Heap → Prop) (vs : List Value) (ns : List Int) : Prop :=
  ∀ (cn : Str) (nm : List (Str × NameKind)) (ig ic : Bool) (mo : List (Str × Const)) (a : Addr) (ccd : Value) (base h₀ : Heap) (L : Addr) (m : Str → Option Value) (s : Shared) (Q E : Value → Shared → Prop),
    Below callerA base [] h₀ → Fr h₀ L s.heap m → K.In h₀ → News h₀ L s.heap news → Top p loose mean mg mb h₀ → pre s.heap →
    (∀ (D : Addr) (ys : List Value) (n : Nat) (h' : Heap) (tk' : Nat), IntsAre ys ns → Fr h₀ L h' m → News h₀ L h' ((D, W.listOf ys.toArray n) :: news) → Q (.ref D) { s with heap := h', toks := tk' }) →
      wpAny (model prog w) (callerA.deeper (envOf cn { kind := .function, names := nm, isGenerator := ig, isCoroutine := ic, more := mo } L a ccd)) (call (.ref f) vs) Q E s
end Mine
end
section
open PySem PySem.W PyProof.Rows
namespace Mine
open Builtin Builtin.Str
theorem pos_toks {α : Type} {M : Model} {A : Around} {t : Sem α} {Q : α → Shared → Prop} {E : Value → Shared → Prop} {h : Heap} {g : Array _} {d : _} {X : Nat} {o : _}
    (k : ∀ tk, 0 < tk → wpAny M A t Q E (Shared.mk h g d tk o)) : wpAny M A t Q E (Shared.mk h g d (X + 1) o) := k (X + 1) (Nat.succ_pos X)
theorem replace_len (x y z : Str) : (Txt.replace x y z).length ≤ x.length + (x.length + 1) * z.length := by
  unfold Txt.replace
  split
  · exact Nat.le_add_right _ _
  · have h1 := StrLaws.occ_length_le x y 0 x.length (x.length + 1)
    have hy : (glued y (partsBetween x (occurrences x y 0 x.length (x.length + 1)) y.length)).length = x.length := by rw [StrLaws.glued_between_self]
    rw [size_glued, length_partsBetween, Nat.add_sub_cancel] at hy
    rw [size_glued, length_partsBetween, Nat.add_sub_cancel]
    have h2 : (occurrences x y 0 x.length (x.length + 1)).length * z.length ≤ (x.length + 1) * z.length := Nat.mul_le_mul_right _ h1
    omega
section
variable {prog : Program} {w : World} {A : Around} {E : Value → Shared → Prop} {s : Shared} {x y z : Str} {t u v : Tok} {Q : Value → Shared → Prop}
theorem my_replace (hp : 0 < s.toks) (hu : (0 : Nat) < u) (hv : (0 : Nat) < v) (huv : @Ne Nat u v) (hyz : (y == z) = false) (hx : x.length ≤ 100000) (hz : z.length = 1)
    (hq : ∀ r t' k, r = Txt.replace x y z → r.length ≤ 2 * x.length + 1 → 0 < k → Q (.str r t') { s with toks := k }) :
    wpAny (model prog w) A (call (.builtin "str.replace") [.str x t, .str y u, .str z v]) Q E s := by
  refine wpAny_with_toks (n := 1) hp ?_
  refine SC.replaceW (Nat.ne_of_gt hu) (Nat.ne_of_gt hv) huv hyz (by omega) (by omega) ?_
  intro t' k hk
  refine hq _ t' k rfl ?_ hk
  have := replace_len x y z
  rw [hz] at this
  omega
theorem my_split {h₀ : Heap} {L : Addr} {m : Str → Option Value} {news : List (Addr × Obj)} (hp : 0 < s.toks) (hF : Fr h₀ L s.heap m) (hN : News h₀ L s.heap news) (hy : (y.length == 0) = false) (hx : x.length ≤ 100000)
    (h : ∀ D l h' k, l.map (·.1) = Txt.split x y → l.length ≤ x.length + 2 → (∀ a ∈ l.map (·.1), a.length ≤ x.length) → 0 < k → (∀ p ∈ news, p.1 < D) → Fr h₀ L h' m →
      News h₀ L h' ((D, W.listOf (strValues l).toArray 0) :: news) → Q (.ref D) { s with heap := h', toks := k }) :
    wpAny (model prog w) A (call (.builtin "str.split") [.str x t, .str y u]) Q E s := by
  refine wpAny_with_toks (n := 1) hp ?_
  refine splitN1A hF hN hy ?_ (by rw [sizeLine_eq]; omega)
  intro l h' k e _ ha _ F N hk
  have hl : l.length ≤ x.length + 2 := by
    have e1 := StrLaws.occ_length_le x y 0 x.length (x.length + 1)
    have e2 : l.length = (Txt.split x y).length := by rw [← e, List.length_map]
    rw [e2]
    unfold Txt.split
    split
    · simp
    · split
      · simp
      · rw [length_partsBetween]; omega
  exact h _ l h' k e hl ha hk (fun p hp => Heap.lt_size (hN p hp).1) F N
end

theorem strValues_get {ls : List (Str × Tok)} {i : Nat} {v : Value} (h : (strValues ls)[i]? = some v) : ∃ p, ls[i]? = some p ∧ v = .str p.1 p.2 := by
  induction ls generalizing i with
  | nil => simp [strValues] at h
  | cons p r ih =>
    cases i with
    | zero => exact ⟨p, rfl, by simpa [strValues] using h.symm⟩
    | succ i => exact ih (by simpa [strValues] using h)
theorem strValues_length (ls : List (Str × Tok)) : (strValues ls).length = ls.length := by
  induction ls with
  | nil => rfl
  | cons p r ih => simp [strValues] at ih ⊢
theorem snoc_ints {ys : List Value} {ns : List Int} {k : Int} {t : Tok} (h : IntsAre ys ns) : IntsAre (ys ++ [.int k t]) (ns ++ [k]) := IntsAre.append h (.cons k t .nil)
section
variable {prog : Program} {w : World} {A : Around} {E : Value → Shared → Prop} {s : Shared} {env : Env} {h₀ : Heap} {x : Str} {body : List Stmt} {Q : Flow → Shared → Prop}
/-- what a turn of the loop leaves: the list d has one int more -/
def TurnL (h₀ : Heap) (L : Addr) (d l : Addr) (vs : List Value) (news own : List (Addr × Obj)) (x : Str) (m₀ : Str → Option Value) (ys : List Value) (k : Int) (s₁ s₂ : Shared) : Prop :=
  ∃ h' tk m' t n', s₂ = { s₁ with heap := h', toks := tk } ∧ Fr h₀ L h' m' ∧ News h₀ L h' ((d, W.listOf (ys ++ [Value.int k t]).toArray n') :: (l, W.listOf vs.toArray 0) :: (news ++ own)) ∧ ∀ z, z ≠ x → m' z = m₀ z
theorem my_append {L : Addr} {m : Str → Option Value} {d : Addr} {ys : List Value} {n : Nat} {v : Value} {rest : List (Addr × Obj)} {Q : Value → Shared → Prop} (F : Fr h₀ L s.heap m) (N : News h₀ L s.heap ((d, W.listOf ys.toArray n) :: rest))
    (hne : ∀ p ∈ rest, p.1 ≠ d) (hsz : ys.length ≤ 100000) (h : ∀ h', Fr h₀ L h' m → News h₀ L h' ((d, W.listOf (ys ++ [v]).toArray (n + 1)) :: rest) → Q .none { s with heap := h' }) :
    wpAny (model prog w) A (call (.builtin "list.append") [.ref d, v]) Q E s := by
  have z := N _ (List.mem_cons_self ..)
  refine append_at (hsz := by rw [List.size_toArray, sizeLine_eq]; omega) z.1 fun h' hs ho' => h h' (F.change hs z.2.1 z.2.2) ?_
  have N' := news_set (pre := []) (post := rest) N (fun _ hp => nomatch hp) hne hs ho'
  simpa using N'
theorem iter_told {l d : Addr} {ls : List (Str × Tok)} {m₀ : Str → Option Value} {news : List (Addr × Obj)} (g : Str → Int)
    (hh : A.handled = none) (F : Fr h₀ env.locals s.heap m₀) (N : News h₀ env.locals s.heap ((l, W.listOf (strValues ls).toArray 0) :: (d, W.listOf #[] 0) :: news))
    (hld : @Ne Nat l d) (hnd : ∀ p ∈ news, p.1 ≠ d)
    (turn : ∀ y t ys n h tk own, y ∈ ls.map (·.1) → ys.length < ls.length → (∀ p ∈ (l, W.listOf (strValues ls).toArray 0) :: (news ++ own), p.1 ≠ d) → Fr h₀ env.locals h (fun z => if z = x then some (.str y t) else m₀ z) → News h₀ env.locals h ((d, W.listOf ys.toArray n) :: (l, W.listOf (strValues ls).toArray 0) :: (news ++ own)) →
      wpAny (model prog w) A (execs body env) (fun f s₂ => f = .next ∧ TurnL h₀ env.locals d l (strValues ls) news own x m₀ ys (g y) { s with heap := h, toks := tk } s₂) E { s with heap := h, toks := tk })
    (done : ∀ (u : Str → Option Value) ys n h tk, IntsAre ys (ls.map fun p => g p.1) → Fr h₀ env.locals h (fun z => if z = x then u z else m₀ z) → News h₀ env.locals h ((d, W.listOf ys.toArray n) :: (l, W.listOf (strValues ls).toArray 0) :: news) → Q .next { s with heap := h, toks := tk }) :
    wpAny (model prog w) A (pyIter (.ref l)) (fun it s₂ => LoopAtV prog w A h₀ env x body Q E it s₂) E s := by
  have N0 : News h₀ env.locals s.heap ((d, W.listOf ([] : List Value).toArray 0) :: (l, W.listOf (strValues ls).toArray 0) :: news) := by
    intro p hp
    refine N p ?_
    rcases List.mem_cons.mp hp with h | h
    · exact h ▸ List.mem_cons_of_mem _ (List.mem_cons_self ..)
    · rcases List.mem_cons.mp h with h | h
      · exact h ▸ List.mem_cons_self ..
      · exact List.mem_cons_of_mem _ (List.mem_cons_of_mem _ h)
  refine kdl_iter (news := (d, W.listOf ([] : List Value).toArray 0) :: (l, W.listOf (strValues ls).toArray 0) :: news)
    (fun i m nx => ∃ ys n, IntsAre ys ((ls.take i).map fun p => g p.1) ∧ nx = (d, W.listOf ys.toArray n) :: (l, W.listOf (strValues ls).toArray 0) :: news ∧ ∀ z, z ≠ x → m z = m₀ z)
    hh (List.mem_cons_of_mem _ (List.mem_cons_self ..)) F N0 ⟨[], 0, by simpa using IntsAre.nil, rfl, fun _ _ => rfl⟩ ?_ ?_
  · rintro i v m₁ nx h tk own hv hoff hl ⟨ys, n, hys, rfl, hm⟩ F₁ N₁
    obtain ⟨p, hp, rfl⟩ := strValues_get hv
    have hi : i < ls.length := (List.getElem?_eq_some_iff.mp hp).1
    have hlen : ys.length < ls.length := by
      have := hys.length
      rw [List.length_map, List.length_take] at this
      omega
    have e : (fun z => if z = x then some (Value.str p.1 p.2) else m₁ z) = fun z => if z = x then some (Value.str p.1 p.2) else m₀ z := by
      funext z
      by_cases h1 : z = x
      · simp [h1]
      · simp only [if_neg h1]; exact hm z h1
    rw [e] at F₁
    refine wpAny_mono (turn p.1 p.2 ys n h tk own (List.mem_map.mpr ⟨p, List.mem_of_getElem? hp, rfl⟩) hlen ?_ F₁ N₁) (fun f s₂ q => ?_) fun _ _ e => e
    · intro q hq
      rcases List.mem_cons.mp hq with h | h
      · exact h ▸ hld
      · rcases List.mem_append.mp h with h | h
        · exact hnd q h
        · exact hoff q h d (List.mem_cons_self ..)
    obtain ⟨rfl, h', tk', m', t, n', e', F', N', hm'⟩ := q
    subst e'
    refine InvEndG.intro F' N' ⟨List.mem_cons_of_mem _ (List.mem_cons_self ..), ys ++ [Value.int (g p.1) t], n', ?_, rfl, hm'⟩ hoff ?_ ?_
    · rw [List.take_add_one, hp]
      simpa using snoc_ints hys
    · intro q hq
      rcases List.mem_cons.mp hq with h | h
      · exact h ▸ List.mem_cons_self ..
      · rcases List.mem_cons.mp h with h | h
        · exact h ▸ List.mem_cons_of_mem _ (List.mem_cons_self ..)
        · exact List.mem_cons_of_mem _ (List.mem_cons_of_mem _ (List.mem_append.mpr (.inl h)))
    · intro q hq
      exact List.mem_cons_of_mem _ (List.mem_cons_of_mem _ (List.mem_append.mpr (.inr hq)))
  · rintro m₁ nx h tk ⟨ys, n, hys, rfl, hm⟩ F₁ N₁
    rw [strValues_length, List.take_length] at hys
    refine done m₁ ys n h tk hys ?_ N₁
    have e : (fun z => if z = x then m₁ z else m₀ z) = m₁ := by
      funext z
      by_cases h1 : z = x
      · simp [h1]
      · simp only [if_neg h1]; exact (hm z h1).symm
    rw [e]; exact F₁
end
end Mine
end
section
open PySem PySem.W PyProof.Rows
namespace Mine
/-- a mark at which the walk stops -/
def Stop (P : Prop) : Prop := P
theorem Stop.out {P : Prop} (h : Stop P) : P := h
/-- the walk of a text's iterator: each sign is new -/
structure SignIt (prog : Program) (w : World) (A : Around) (I : Addr) (x : Str) (St : Nat → Heap → Prop) : Prop where
  frame : ∀ i h h', St i h → (∀ o, h.get? I = some o → h'.get? I = some o) → St i h'
  item : ∀ i (s : Shared) (Q : Option Value → Shared → Prop) (E : Value → Shared → Prop) c, x.cps[i]? = some c → St i s.heap →
    (∀ h', St (i + 1) h' → Heap.SameBut I s.heap h' → Q (some (.str ⟨#[c]⟩ s.toks)) { s with heap := h', toks := s.toks + 1 }) → wpAny (model prog w) A (pyNext (.ref I)) Q E s
  done : ∀ (s : Shared) (Q : Option Value → Shared → Prop) (E : Value → Shared → Prop), St x.cps.size s.heap →
    (∀ h', Heap.ExtBut I s.heap h' → Q none { s with heap := h' }) → wpAny (model prog w) A (pyNext (.ref I)) Q E s
  live : ∀ i h, St i h → ∃ o, h.get? I = some o
theorem SignIt.ascii {prog : Program} {w : World} {A : Around} (hh : A.handled = none) (I : Addr) (x : Str) (t : Tok) : SignIt prog w A I x (fun i h => h.IsStrIter I "str_ascii_iterator" x t i) where
  frame := fun _ _ _ st hk => let ⟨o, ho, r⟩ := st; ⟨o, hk o ho, r⟩
  item := fun _ _ _ _ _ hc st hQ => wpAny_pyNext_ascii_item st hc hQ
  done := fun _ _ _ st hQ => wpAny_pyNext_ascii_end hh st (by simp) hQ
  live := fun _ _ st => let ⟨o, ho, _⟩ := st; ⟨o, ho⟩
theorem SignIt.wide {prog : Program} {w : World} {A : Around} (hh : A.handled = none) (I : Addr) (x : Str) (t : Tok) : SignIt prog w A I x (fun i h => h.IsStrIter I "str_iterator" x t i) where
  frame := fun _ _ _ st hk => let ⟨o, ho, r⟩ := st; ⟨o, hk o ho, r⟩
  item := fun _ _ _ _ _ hc st hQ => wpAny_pyNext_wide_item st hc hQ
  done := fun _ _ _ st hQ => wpAny_pyNext_wide_end hh st (by simp) hQ
  live := fun _ _ st => let ⟨o, ho, _⟩ := st; ⟨o, ho⟩
theorem pyIter_signs {prog : Program} {w : World} {A : Around} {E : Value → Shared → Prop} {s : Shared} {x : Str} {t : Tok} {Q : Value → Shared → Prop} (hh : A.handled = none)
    (hQ : ∀ (o : Obj) (St : Nat → Heap → Prop), SignIt prog w A s.heap.objs.size x St → St 0 (s.heap.push o) → o.isFreed = false → Q (.ref s.heap.objs.size) { s with heap := s.heap.push o }) :
    wpAny (model prog w) A (pyIter (.str x t)) Q E s := by
  cases ha : x.cps.all (· < 128)
  · exact wpAny_pyIter_wide ha (hQ _ _ (SignIt.wide hh _ x t) ⟨_, Heap.get?_push_size _ rfl, rfl, rfl⟩ rfl)
  · exact wpAny_pyIter_ascii ha (hQ _ _ (SignIt.ascii hh _ x t) ⟨_, Heap.get?_push_size _ rfl, rfl, rfl⟩ rfl)
theorem le_toks {α : Type} {M : Model} {A : Around} {t : Sem α} {Q : α → Shared → Prop} {E : Value → Shared → Prop} {h : Heap} {g : Array _} {d : _} {X Y : Nat} {o : _}
    (k : ∀ tk, X + Y ≤ tk → wpAny M A t Q E (Shared.mk h g d tk o)) : wpAny M A t Q E (Shared.mk h g d (X + Y) o) := k (X + Y) (Nat.le_refl _)
theorem isSame_text {M : Model} {A : Around} {E : Value → Shared → Prop} {s : Shared} {y z : Str} {u v : Tok} {Q : Bool → Shared → Prop}
    (h0 : (u == 0 || v == 0) = false) (huv : (u == v) = false) (hb : NoneBooked s.heap) (hq : ∀ b, (b = true → y = z) → Q b s) : wpAny M A (isSame (.str y u) (.str z v)) Q E s := by
  show wpAny M A (isSame.created (y == z) u v) Q E s
  unfold isSame.created
  refine wpAny_ite ?_
  rw [h0, if_neg Bool.false_ne_true]
  refine wpAny_ite ?_
  rw [huv, if_neg Bool.false_ne_true]
  refine wpAny_ite ?_
  split
  · exact wpAny_pure (hq _ (fun e => nomatch e))
  · rename_i hyz
    have e : y = z := by simpa using hyz
    refine wpAny_bind (wpAny_sharingNotTold_none hb ?_)
    simp only [Bool.false_eq_true, if_false]
    refine wpAny_bind (wpAny_sharingNotTold_none hb ?_)
    simp only [Bool.false_eq_true, if_false]
    exact wpAny_bind (wpAny_rule (wpAny_bind (wpAny_askSetting (wpAny_pure (hq _ fun _ => e)))))
theorem is_text {M : Model} {A : Around} {E : Value → Shared → Prop} {s : Shared} {y z : Str} {u v : Tok} {Q : Value → Shared → Prop}
    (hu : (0 : Nat) < u) (hv : (0 : Nat) < v) (huv : @Ne Nat u v) (hb : NoneBooked s.heap) (hq : ∀ b, (b = true → y = z) → Q (.bool b) s) : wpAny M A (compareOp .Is (.str y u) (.str z v)) Q E s := by
  have h0 : (u == 0 || v == 0) = false := by
    have h1 : u ≠ 0 := Nat.ne_of_gt hu
    have h2 : v ≠ 0 := Nat.ne_of_gt hv
    simp [h1, h2]
  have h1 : (u == v) = false := by
    have : u ≠ v := huv
    simp [this]
  show wpAny M A (do return .bool (← isSame (.str y u) (.str z v))) Q E s
  exact wpAny_bind (isSame_text h0 h1 hb fun b hbb => wpAny_pure (hq b hbb))
theorem strKeys_of {es : Array DictEntry} (h : (es.toList.all fun e => match e.key with | .str _ _ => true | _ => false) = true) : StrKeys es := fun e he => by
  have := List.all_eq_true.mp h e (Array.mem_def.mp he)
  split at this
  · rename_i n t hk; exact ⟨n, t, hk⟩
  · cases this
theorem noneBooked {w : World} {h : Heap} (H : (hd.heap_39 w.params).In h) : NoneBooked h := by
  have e := H 2 _ rfl
  refine ⟨nsFind _, ⟨_, _, _, e, rfl, strKeys_of (by rfl), fun _ => rfl⟩, ?_⟩
  kernel_rfl
section
variable {prog : Program} {w : World} {A : Around} {E : Value → Shared → Prop} {s : Shared} {env : Env} {h₀ : Heap} {x y : Str} {body : List Stmt} {Q : Flow → Shared → Prop}
def TurnC (h₀ : Heap) (L : Addr) (I : Addr) (oI : Obj) (news : List (Addr × Obj)) (x y : Str) (m₀ : Str → Option Value) (k : Int) (s₁ s₂ : Shared) : Prop :=
  ∃ h' tk m' t, s₂ = { s₁ with heap := h', toks := tk } ∧ Fr h₀ L h' m' ∧ News h₀ L h' ((I, oI) :: news) ∧ m' y = some (.int k t) ∧ ∀ z, z ≠ x → z ≠ y → m' z = m₀ z
theorem for_signs {px pos : Pos} {iter : Expr} {xt : Str} {tx : Tok} {m₀ : Str → Option Value} {news : List (Addr × Obj)} {a₀ : Int} {t₀ : Tok} (g : Int → Nat → Int)
    (hh : A.handled = none) (hx : env.kindOf x = some .local) (hp : (env.scope.kind == .class || (env.scope.kind == .module && env.locals != env.globals)) = false)
    (F : Fr h₀ env.locals s.heap m₀) (N : News h₀ env.locals s.heap news) (lo : Nat) (hpos : lo ≤ s.toks) (hy : m₀ y = some (.int a₀ t₀)) (hyx : y ≠ x)
    (hev : ∀ Q : Value → Shared → Prop, Q (.str xt tx) s → wpAny (model prog w) A (eval iter env) Q E s)
    (turn : ∀ c t a ta h tk I oI, c ∈ xt.cps.toList → lo ≤ t → lo ≤ tk → (∀ p ∈ news, p.1 ≠ I) → Fr h₀ env.locals h (fun z => if z = x then some (.str ⟨#[c]⟩ t) else if z = y then some (.int a ta) else m₀ z) → News h₀ env.locals h ((I, oI) :: news) →
      wpAny (model prog w) A (execs body env) (fun f s₂ => f = .next ∧ TurnC h₀ env.locals I oI news x y m₀ (g a c) { s with heap := h, toks := tk } s₂) E { s with heap := h, toks := tk })
    (done : ∀ (u : Str → Option Value) t h tk, lo ≤ tk → Fr h₀ env.locals h (fun z => if z = x then u z else if z = y then some (.int (xt.cps.toList.foldl g a₀) t) else m₀ z) → News h₀ env.locals h news → Q .next { s with heap := h, toks := tk })
    (hs : ∀ x, foldedSetIterable iter env x = pure x := by intro _; rfl) (hE : PassesOwn (model prog w) A env E := by passes_own) :
    wpAny (model prog w) A (exec (.For (.Name x px) iter body [] pos) env) Q E s := by
  refine wpAny_For (hev _ (pyIter_signs hh fun oI₀ St W hst hfree => ?_)) hs
  have hLI : env.locals ≠ s.heap.objs.size := Nat.ne_of_lt F.ns.lt
  have hI0 : h₀.get? s.heap.objs.size = none := next_is_new F
  have hnI : ∀ p ∈ news, p.1 ≠ s.heap.objs.size := fun p hp => Nat.ne_of_lt (Heap.lt_size (N p hp).1)
  refine codeAny_forLoop (fun k s' => ∃ h' tk m' i t, s' = { s with heap := h', toks := tk } ∧ lo ≤ tk ∧ St i h' ∧ Fr h₀ env.locals h' m' ∧ News h₀ env.locals h' news ∧ m' y = some (.int ((xt.cps.toList.take i).foldl g a₀) t) ∧ (∀ z, z ≠ x → z ≠ y → m' z = m₀ z) ∧ i ≤ xt.cps.size ∧ k = xt.cps.size + 1 - i) ?_ (xt.cps.size + 1)
    ⟨_, s.toks, m₀, 0, t₀, rfl, hpos, hst, F.push _, (fun p hp => ⟨Heap.get?_push_of_some _ (N p hp).1, (N p hp).2⟩), by simpa using hy, fun _ _ _ => rfl, Nat.zero_le _, rfl⟩
  rintro k s' ⟨h', tk, m', i, t, rfl, htk, hst', F', N', hmy, hm, hi, rfl⟩
  by_cases hlt : i < xt.cps.size
  · have hc : xt.cps[i]? = some xt.cps[i] := by simp [hlt]
    refine W.item i _ _ _ _ hc hst' fun h₁ hst₁ hs₁ => ?_
    have up : ∀ b o, b ≠ s.heap.objs.size → h'.get? b = some o → h₁.get? b = some o := fun b o hb e => (hs₁.2 b hb).trans e
    have F₁ : Fr h₀ env.locals h₁ m' := ⟨F'.ns.at' fun o e => up _ o hLI e, fun b o e => up b o (fun q => by rw [q, hI0] at e; cases e) (F'.keep b o e), F'.above⟩
    have N₁ : News h₀ env.locals h₁ news := fun p hp => ⟨up _ _ (hnI p hp) (N' p hp).1, (N' p hp).2⟩
    refine wpAny_assign_Name (wpAny_storeName_local hx F₁.ns (fun h₂ hn₂ hs₂ => ?_) hp)
    have F₂ := F₁.set hn₂ hs₂
    have hst₂ : St (i + 1) h₂ := W.frame _ _ _ hst₁ fun o e => (hs₂.2 _ (Ne.symm hLI)).trans e
    obtain ⟨oI, hoI⟩ := W.live _ _ hst₂
    have N₂ : News h₀ env.locals h₂ ((s.heap.objs.size, oI) :: news) := by
      intro p hp
      rcases List.mem_cons.mp hp with e | hp
      · subst e; exact ⟨hoI, Ne.symm hLI, hI0⟩
      · exact (N₁.set hs₂) p hp
    have e2 : (fun z => if z = x then some (Value.str ⟨#[xt.cps[i]]⟩ tk) else m' z) = fun z => if z = x then some (Value.str ⟨#[xt.cps[i]]⟩ tk) else if z = y then some (Value.int ((xt.cps.toList.take i).foldl g a₀) t) else m₀ z := by
      funext z
      by_cases h1 : z = x
      · simp [h1]
      · simp only [if_neg h1]
        by_cases h2 : z = y
        · subst h2; simp [hmy]
        · simp only [if_neg h2]; exact hm z h1 h2
    rw [e2] at F₂
    have T := turn xt.cps[i] tk _ t h₂ (tk + 1 + 1) s.heap.objs.size oI (by simp) htk (Nat.le_succ_of_le (Nat.le_succ_of_le htk)) hnI F₂ N₂
    have T' := wpAny_toks_of (n := lo) (s := { s with heap := h₂, toks := tk + 1 + 1 }) (Nat.le_succ_of_le (Nat.le_succ_of_le htk)) T
    refine wpAny_passesOwn hE (wpAny_mono T' (fun f s₃ h₃ => ?_) fun _ _ e => e.2)
    obtain ⟨hpos₃, rfl, h₃', tk₃, m₃, t₃, rfl, F₃, N₃, hy₃, hm₃⟩ := h₃
    refine ⟨xt.cps.size + 1 - (i + 1), by omega, h₃', tk₃, m₃, i + 1, t₃, rfl, hpos₃, ?_, F₃, fun p hp => N₃ p (List.mem_cons_of_mem _ hp), ?_, hm₃, hlt, rfl⟩
    · refine W.frame _ _ _ hst₂ fun o e => ?_
      rw [hoI] at e
      cases e
      exact (N₃ _ (List.mem_cons_self ..)).1
    · rw [hy₃, List.take_add_one]
      simp [hlt]
  · have hin : i = xt.cps.size := by omega
    subst hin
    refine W.done _ _ _ hst' fun h₁ hx₁ => wpAny_execs_nil ?_
    have up : ∀ b o, b ≠ s.heap.objs.size → h'.get? b = some o → h₁.get? b = some o := fun b o hb e => hx₁ b o hb e
    have F₁ : Fr h₀ env.locals h₁ m' := ⟨F'.ns.at' fun o e => up _ o hLI e, fun b o e => up b o (fun q => by rw [q, hI0] at e; cases e) (F'.keep b o e), F'.above⟩
    have N₁ : News h₀ env.locals h₁ news := fun p hp => ⟨up _ _ (hnI p hp) (N' p hp).1, (N' p hp).2⟩
    have e3 : (xt.cps.toList.take xt.cps.size).foldl g a₀ = xt.cps.toList.foldl g a₀ := by
      rw [List.take_of_length_le (by simp)]
    rw [e3] at hmy
    refine done m' t h₁ tk htk ?_ N₁
    have e : (fun z => if z = x then m' z else if z = y then some (Value.int (xt.cps.toList.foldl g a₀) t) else m₀ z) = m' := by
      funext z
      by_cases h1 : z = x
      · simp [h1]
      · simp only [if_neg h1]
        by_cases h2 : z = y
        · subst h2; simp [hmy]
        · simp only [if_neg h2]; exact (hm z h1 h2).symm
    rw [e]; exact F₁
end
end Mine
end
section
open PySem PySem.W PyProof.Rows
namespace Mine
section
variable {prog : Program} {w : World} {A : Around} {E : Value → Shared → Prop} {s : Shared} {h₀ : Heap} {L : Addr} {m : Str → Option Value}
theorem setLast_at {l : Addr} {es : List Value} {v0 v : Value} {n : Nat} {t : Tok} {Q : Unit → Shared → Prop} (ho : s.heap.get? l = some (W.listOf (es ++ [v0]).toArray n))
    (hQ : Q () { s with heap := s.heap.update l (Obj.mapSeq (·.setIfInBounds es.length v)) }) : wpAny (model prog w) A (setItem (.ref l) (.int (-1) t) v) Q E s := by
  have hl : s.heap.IsList l (es ++ [v0]).toArray := ⟨_, ho, rfl, n, rfl⟩
  have hd : (W.listOf (es ++ [v0]).toArray n).data = .seq (es ++ [v0]).toArray n := rfl
  unfold setItem
  try with_reducible refine wpAny_holding ?_
  first | refine wpAny_bind (wpAny_pure ?_) | skip
  refine wpAny_bind (wpAny_sequenceKey hl.typeIs (by decide) ?_)
  refine wpAny_bind (wpAny_callSpecial?_slot (name := Str.ofString "__setitem__") hl.typeIs slot_list_setitem
    (wpAny_call_entry slot_list_setitem hl.typeIs entry_list_setitem ?_ (args_list_setitem _ _ _)))
  show wpAny _ _ (Builtin.List.listSubscript? (.int (-1) t) >>= _) _ _ s
  refine wpAny_bind (wpAny_listSubscript_int (fitsIndex_neg (by decide) (by decide)) ?_)
  have hidx : seqIndex? (-1) (es ++ [v0]).toArray.size = some es.length := by
    rw [seqIndex_neg (by decide) (by simp; omega)]
    simp
    omega
  show wpAny _ _ ((Builtin.List.listItems (.ref l) >>= fun xs => pure ((seqIndex? (Int.negSucc 0) xs.size).bind fun i => xs[i]?.map (i, ·))) >>= _) _ _ s
  refine wpAny_bind (wpAny_bind ?_)
  show wpAny _ _ (seqItems? (.ref l) >>= _) _ _ s
  refine wpAny_bind (wpAny_seqItems ho hd (wpAny_pure (wpAny_pure ?_)))
  have hidx' : seqIndex? (Int.negSucc 0) (es ++ [v0]).toArray.size = some es.length := hidx
  have hx : (es ++ [v0]).toArray[es.length]? = some v0 := by simp
  simp only [Option.getD_some]
  rw [hidx']
  simp only [Option.bind_some, hx, Option.map_some]
  show wpAny _ _ (setSeqItemAt l es.length v >>= _) _ _ s
  refine wpAny_bind (wpAny_setSeqItemAt ho hd ?_)
  first
    | exact wpAny_bind (wpAny_pure (wpAny_pure ⟨.none, rfl, wpAny_pure hQ⟩))
    | exact wpAny_pure ⟨.none, rfl, wpAny_pure hQ⟩
theorem my_setLast {d : Addr} {es : List Value} {v0 v : Value} {n : Nat} {t : Tok} {rest : List (Addr × Obj)} {Q : Unit → Shared → Prop} (F : Fr h₀ L s.heap m) (N : News h₀ L s.heap ((d, W.listOf (es ++ [v0]).toArray n) :: rest))
    (hne : ∀ p ∈ rest, p.1 ≠ d) (h : ∀ h', Fr h₀ L h' m → News h₀ L h' ((d, W.listOf (es ++ [v]).toArray n) :: rest) → Q () { s with heap := h' }) :
    wpAny (model prog w) A (setItem (.ref d) (.int (-1) t) v) Q E s := by
  have z := N _ (List.mem_cons_self ..)
  refine setLast_at z.1 (h _ (F.change (Heap.SameBut.update ..) z.2.1 z.2.2) ?_)
  have := ki_turn (pre := []) (post := rest) (its' := (es ++ [v]).toArray) (n' := n) (fun a => a.setIfInBounds es.length v) N (fun _ hp => nomatch hp) hne ?_ ?_
  · simpa using this
  · apply Array.toList_inj.mp
    simp
  · simp
theorem setLast_U {d : Addr} {es : List Value} {v0 v : Value} {n : Nat} {t : Tok} {news news' : List (Addr × Obj)} {Q : Unit → Shared → Prop} (F : Fr h₀ L s.heap m) (N : News h₀ L s.heap news)
    (U : Upd d (W.listOf (es ++ [v0]).toArray n) (W.listOf (es ++ [v]).toArray n) news news') (h : ∀ h', Fr h₀ L h' m → News h₀ L h' news' → Q () { s with heap := h' }) :
    wpAny (model prog w) A (setItem (.ref d) (.int (-1) t) v) Q E s := by
  obtain ⟨pre, post, rfl, rfl, a, b⟩ := U.split
  have z := N (d, W.listOf (es ++ [v0]).toArray n) (List.mem_append.mpr (.inr (.head _)))
  refine setLast_at z.1 (h _ (F.change (Heap.SameBut.update ..) z.2.1 z.2.2) ?_)
  refine ki_turn (its' := (es ++ [v]).toArray) (n' := n) (fun a => a.setIfInBounds es.length v) N a b ?_ ?_
  · apply Array.toList_inj.mp
    simp
  · simp
end
end Mine
end
section
open PySem PySem.W PyProof.Rows
namespace Mine
def restT (c d r : Int) : Int := (2 * r - c) * (2 * (d * r).fmod c - c)
def restsF (c d : Int) : Int := ((rangeKs 1 (c - 1).toNat).map (restT c d)).sum
set_option maxRecDepth 100000 in
set_option maxHeartbeats 8000000 in
theorem rests_c {w : World} {mean : ExcName → Option Value} {mg mb : Str → Option Value} {news : List (Addr × Obj)} (c d : Int) (tc td : Tok)
   (hc0 : 0 < c) (hc1 : c < 1099511627776) (hd0 : 0 ≤ d) (hd1 : d < 1099511627776) :
   ClV Challenge.rw_pg0024_01.row.prog w (hd.heap_39 w.params) hd.view_39 (looseW hd.view_39 [Str.ofString "_twin_re_1", Str.ofString "_twin_re_2"]) mean mg mb 118 news [.int c tc, .int d td] (fun t => .int (restsF c d) t) := by
  w_top off
  k_fill
  dsimp only [ClV, CbRet]; intros; rename_i hret
  k_with "pyIter ref" => k_state (fun pre tot => tot = (pre.map (restT c d)).sum) "total"
  k_with "state" => (simp only [List.map_append, List.sum_append, List.map_cons, List.map_nil, List.sum_cons, List.sum_nil, Int.add_zero, restT, *])
  k_steps
  · exact cb_retI hret (by assumption) (by assumption) (by assumption)
end Mine
end
section
open PySem PySem.W PyProof.Rows
namespace Mine
open Builtin Builtin.Str in
def toldT (n : Int) (row : Str) : Int := Txt.count row (Str.ofString ".") + (if Txt.slice row none (some 1) = Str.ofString "." then n else 0)
def toldF (x : Str) (n : Int) : List Int := (Txt.split (Txt.replace (Txt.replace x (Str.ofString "\x0d\n") (Str.ofString "\n")) (Str.ofString "\x0d") (Str.ofString "\n")) (Str.ofString "\n")).map (toldT n)
local macro_rules | `(tactic| walk_at "execs cons") => `(tactic| (k_here; (with_reducible show wpAny _ _ (execs _ _) _ _ (Shared.mk _ _ _ (_ + 1) _)); refine pos_toks ?_; intro tk htk))
local macro_rules | `(tactic| walk_at "call builtin:str.replace") => `(tactic| (k_here; refine my_replace (by first | assumption | (dsimp only; omega)) (by first | assumption | omega) (by first | assumption | omega) (by first | assumption | omega) (by decide +kernel) (by omega) (by rfl) ?_; intro r' t' k' er' hr' hk'; (try dsimp only)))
local macro_rules | `(tactic| walk_at "call builtin:str.split") => `(tactic| (k_here; refine my_split (by first | assumption | (dsimp only; omega)) (by k_asm) (by k_asm) (by decide +kernel) (by omega) ?_; intro D' l' h' k' el' hll' hl' hk' lt' F' N'; (try k_lt lt'); (try dsimp only)))
local macro_rules | `(tactic| walk_at "call builtin:list.append") => `(tactic| (k_here; refine my_append (by k_asm) (by k_asm) (by assumption) (by omega) ?_; intro h' F' N'))
theorem turnL_end {h₀ h' : Heap} {L d l : Addr} {vs ys : List Value} {news own : List (Addr × Obj)} {x : Str} {m₀ m' : Str → Option Value} {k k' : Int} {s₁ : Shared} {tk n' : Nat} {t : Tok}
    (F : Fr h₀ L h' m') (N : News h₀ L h' ((d, W.listOf (ys ++ [Value.int k' t]).toArray n') :: (l, W.listOf vs.toArray 0) :: (news ++ own))) (e : k' = k) (hm : ∀ z, z ≠ x → m' z = m₀ z) :
    TurnL h₀ L d l vs news own x m₀ ys k s₁ { s₁ with heap := h', toks := tk } := ⟨h', tk, m', t, n', rfl, F, e ▸ N, hm⟩
theorem News.sub1 {h₀ h : Heap} {L : Addr} {p q : Addr × Obj} {r : List (Addr × Obj)} (N : News h₀ L h (p :: q :: r)) : News h₀ L h (p :: r) := fun x hx => by
  rcases List.mem_cons.mp hx with h | h
  · exact N x (h ▸ List.mem_cons_self ..)
  · exact N x (List.mem_cons_of_mem _ (List.mem_cons_of_mem _ h))
set_option maxRecDepth 100000 in
set_option maxHeartbeats 8000000 in
theorem told_c {w : World} {mean : ExcName → Option Value} {mg mb : Str → Option Value} {news : List (Addr × Obj)} (x : Str) (tx : Tok) (n : Int) (tn : Tok)
   (hx : x.length ≤ 100) :
   ClL Challenge.rw_pg0024_01.row.prog w (hd.heap_39 w.params) hd.view_39 (looseW hd.view_39 [Str.ofString "_twin_re_1", Str.ofString "_twin_re_2"]) mean mg mb 125 news (fun _ => True) [.str x tx, .int n tn] (toldF x n) := by
  w_top off
  k_fill
  dsimp only [ClL]; intros; rename_i hret
  k_steps
  · rename_i lt'
    refine iter_told (toldT n) (by rfl) (by assumption) (by assumption) (by omega) (by k_all) ?_ ?_
    · intro y t ys n' h' tk' own' hy' hlen' hne' F' N'
      k_steps
      · have hq : (Txt.slice y none (some 1) == Str.ofString ".") = true := by assumption
        refine turnL_end (by assumption) (by assumption) ?_ (fun z hz => if_neg hz)
        unfold toldT
        rw [if_pos (eq_of_beq hq)]
      · have hq : (Txt.slice y none (some 1) == Str.ofString ".") = false := by assumption
        refine turnL_end (by assumption) (by assumption) ?_ (fun z hz => if_neg hz)
        unfold toldT
        rw [if_neg (fun e => by rw [e] at hq; simp at hq)]
    · intro u ys n' h' tk' hys' F' N'
      k_steps
      refine hret _ ys n' _ _ ?_ (by assumption) (News.sub1 (by assumption))
      have el' := ‹List.map _ _ = Txt.split _ _›
      subst_vars
      unfold toldF
      rw [← el', List.map_map]
      exact hys'
end Mine
end
section
open PySem PySem.W PyProof.Rows
namespace Mine
/-- a call's contract from a def that the law calls -/
abbrev ClV2 (prog : Program) (w : World) (K : Frag) (p : Program) (loose : List Str) (mean : ExcName → Option Value) (mg mb : Str → Option Value) (f : Addr) (news : List (Addr × Obj)) (lo : Nat) (vs : List Value) (R : Tok → Value) : Prop :=
  ∀ (e1 : Env) (cn : Str) (nm : List (Str × NameKind)) (ig ic : Bool) (mo : List (Str × Const)) (a : Addr) (ccd : Value) (base h₀ : Heap) (L : Addr) (m : Str → Option Value) (s : Shared) (Q E : Value → Shared → Prop),
    Below (callerA.deeper e1) base [e1] h₀ → Fr h₀ L s.heap m → K.In h₀ → News h₀ L s.heap news → Top p loose mean mg mb h₀ → lo ≤ s.toks →
    (∀ (t : Tok) (h' : Heap) (tk' : Nat), lo ≤ tk' → Fr h₀ L h' m → News h₀ L h' news → Q (R t) { s with heap := h', toks := tk' }) →
      wpAny (model prog w) ((callerA.deeper e1).deeper (envOf cn { kind := .function, names := nm, isGenerator := ig, isCoroutine := ic, more := mo } L a ccd)) (call (.ref f) vs) Q E s
def dotS (a : Int) (c : Nat) : Int := if c = 46 then a + 1 else a
def dotsT (row : Str) : Int := row.cps.toList.foldl dotS 0
theorem turnC_end {h₀ h' : Heap} {L I : Addr} {oI : Obj} {news : List (Addr × Obj)} {x y : Str} {m₀ m' : Str → Option Value} {k k' : Int} {s₁ : Shared} {tk : Nat} {t : Tok}
    (F : Fr h₀ L h' m') (N : News h₀ L h' ((I, oI) :: news)) (hy : m' y = some (.int k' t)) (e : k' = k) (hm : ∀ z, z ≠ x → z ≠ y → m' z = m₀ z) :
    TurnC h₀ L I oI news x y m₀ k s₁ { s₁ with heap := h', toks := tk } := ⟨h', tk, m', t, rfl, F, N, e ▸ hy, hm⟩
theorem one_dot {c : Nat} (h : (⟨#[c]⟩ : Str) = Str.ofString ".") : c = 46 := by
  have e : Str.ofString "." = ⟨#[46]⟩ := by decide +kernel
  rw [e] at h
  simpa using h
theorem not_dot {c : Nat} (h : ((⟨#[c]⟩ : Str) == Str.ofString ".") = false) : c ≠ 46 := by
  intro e
  subst e
  revert h
  decide +kernel
local macro_rules | `(tactic| walk_at "execs cons") => `(tactic| (k_here; (with_reducible show wpAny _ _ (execs _ _) _ _ (Shared.mk _ _ _ (_ + _) _)); refine le_toks ?_; intro tk htk))
local macro_rules | `(tactic| walk_at "exec For Name Name cons nil") => `(tactic| (k_here; (with_reducible show wpAny _ _ (exec (Stmt.For (Expr.Name (Str.ofString "i") _) (Expr.Name (Str.ofString "a") _) _ _ _) _) _ _ _); refine Stop.out ?_))
local macro_rules | `(tactic| walk_at "compareOp Is str str") => `(tactic| (k_here; refine is_text (by omega) (by omega) (by omega) (noneBooked (Frag.In.keeps (by assumption) (Fr.keep (by k_asm)))) ?_; intro b' hb'))
set_option maxRecDepth 100000 in
set_option maxHeartbeats 8000000 in
theorem count_c {w : World} {mean : ExcName → Option Value} {mg mb : Str → Option Value} {news : List (Addr × Obj)} (x : Str) (tx : Tok) (td : Tok) (htd : (0 : Nat) < td) :
   ClV2 Challenge.rw_pg0024_01.row.prog w (hd.heap_39 w.params) hd.view_39 (looseW hd.view_39 [Str.ofString "_twin_re_1", Str.ofString "_twin_re_2"]) mean mg mb 90 news (td + 1) [.str x tx, .str (Str.ofString ".") td] (fun t => .int (dotsT x) t) := by
  w_top off
  k_fill
  dsimp only [ClV2]; intros; rename_i hlo hret
  k_steps
  · unfold Stop
    refine for_signs (y := Str.ofString "count") dotS rfl rfl rfl (by assumption) (by assumption) (td + 1) (by dsimp only at *; omega) rfl (by decide) (fun Q h => ld (by assumption) rfl h) ?_ ?_
    · intro c t a ta h' tk' I oI hc ht htk hnI F' N'
      k_steps
      · have hb := ‹_ = true → _› ‹_ = true›
        refine turnC_end (by assumption) (by assumption) rfl ?_ (fun z h1 h2 => by simp only [if_neg h1, if_neg h2])
        rw [dotS, if_pos (one_dot hb)]
      · have hb : ((⟨#[c]⟩ : Str) == Str.ofString ".") = true := by assumption
        refine turnC_end (by assumption) (by assumption) rfl ?_ (fun z h1 h2 => by simp only [if_neg h1, if_neg h2])
        rw [dotS, if_pos (one_dot (eq_of_beq hb))]
      · have hb : ((⟨#[c]⟩ : Str) == Str.ofString ".") = false := by assumption
        refine turnC_end (by assumption) (by assumption) rfl ?_ (fun z h1 h2 => by simp only [if_neg h1, if_neg h2])
        rw [dotS, if_neg (not_dot hb)]
    · intro u t h' tk' htk F' N'
      k_steps
      exact hret _ _ _ (by assumption) (by assumption) (by assumption)
end Mine
end
section
open PySem PySem.W PyProof.Rows
namespace Mine
section
variable {prog : Program} {w : World} {A : Around} {E : Value → Shared → Prop} {s : Shared} {h₀ : Heap} {L : Addr} {m : Str → Option Value} {news : List (Addr × Obj)}
theorem my_enum {l : Addr} {ls : List (Str × Tok)} {Q : Value → Shared → Prop} (hh : A.handled = none)
    (F : Fr h₀ L s.heap m) (N : News h₀ L s.heap ((l, W.listOf (strValues ls).toArray 0) :: news)) (hlt : ∀ q ∈ news, q.1 < l)
    (h : ∀ h' e, Fr h₀ L h' m → News h₀ L h' news → PairSrcL prog w A E h₀ L ItemKind.str (ls.map (·.1)) (.ref e) { s with heap := h' } m news → Q (.ref e) { s with heap := h' }) :
    wpAny (model prog w) A (call (.type "enumerate") [.ref l]) Q E s := by
  have z := N _ (List.mem_cons_self ..)
  have hls : s.heap.IsList l (strValues ls).toArray := ⟨_, z.1, rfl, 0, rfl⟩
  have N1 : News h₀ L s.heap news := fun p hp => N p (List.mem_cons_of_mem _ hp)
  have hLs : L < s.heap.objs.size := F.ns.lt
  have hab : h₀.objs.size ≤ L := F.above
  have hl2 : l < s.heap.objs.size := Heap.lt_size z.1
  have hi : AreOf ItemKind.str (strValues ls) (ls.map (·.1)) := StrsAre.areOf (strsAre_of_values ls)
  refine call_enumerate_list hls fun h' he hit hsz hk => ?_
  have F' : Fr h₀ L h' m := ⟨F.ns.keeps hk, fun b o e => hk b o (F.keep b o e), F.above⟩
  have N' : News h₀ L h' news := fun p hp => ⟨hk _ _ (N1 p hp).1, (N1 p hp).2⟩
  refine h h' _ F' N' fun env hL => ?_
  subst hL
  refine enumSrc (Draws.list (A := A.in1) hh s.heap.objs.size l (Nat.ne_of_lt hl2) (strValues ls).toArray) he ⟨hit, hls.at fun o e => hk l o e⟩ (Nat.succ_ne_self _) ?_ (by simp) ?_
    (Heap.get?_none_of_le (Nat.le_trans hab (Nat.le_of_lt (Nat.lt_succ_of_lt hLs)))) (Heap.get?_none_of_le (Nat.le_trans hab (Nat.le_of_lt hLs))) ?_ (by simp [hi.length]) (fun i x hx => hi.get i x (by simpa using hx)) F' N'
  · intro hm
    rcases List.mem_cons.mp hm with e | hm
    · exact Nat.succ_ne_self _ e
    · exact Nat.ne_of_gt (Nat.lt_succ_of_lt hl2) (List.mem_singleton.mp hm)
  · intro hm
    rcases List.mem_cons.mp hm with e | hm
    · exact Nat.ne_of_lt (Nat.lt_succ_of_lt hLs) e
    · rcases List.mem_cons.mp hm with e | hm
      · exact Nat.ne_of_lt hLs e
      · exact z.2.1 (List.mem_singleton.mp hm).symm
  · intro b hb q hq e
    have hq1 : q.1 < s.heap.objs.size := Heap.lt_size (N1 q hq).1
    rcases List.mem_cons.mp hb with e1 | hb
    · exact Nat.ne_of_gt (Nat.lt_succ_of_lt hq1) (e1.symm.trans e)
    · rcases List.mem_cons.mp hb with e1 | hb
      · exact Nat.ne_of_gt hq1 (e1.symm.trans e)
      · exact Nat.ne_of_gt (hlt q hq) ((List.mem_singleton.mp hb).symm.trans e)
end
/-- the table, led along one row -/
def stepT (q : Int × Int × Int × Int) (i : Nat) (k : Int) : Int × Int × Int × Int :=
  if 0 < i then (q.1 + k * (q.1 + q.2.1), q.1 + q.2.1, q.2.2.1 + k * (q.2.2.1 + q.2.2.2), q.2.2.1 + q.2.2.2)
  else (q.1 + k * q.2.1, q.2.1, q.2.2.1 + k * q.2.2.2, q.2.2.2)
def tabs : Nat → Int × Int × Int × Int → List Int → Int × Int × Int × Int
  | _, q, [] => q
  | i, q, k :: r => tabs (i + 1) (stepT q i k) r
theorem tabs_snoc (k : Int) : ∀ (l : List Int) (i : Nat) (q : Int × Int × Int × Int), tabs i q (l ++ [k]) = stepT (tabs i q l) (i + l.length) k
  | [], i, q => rfl
  | a :: r, i, q => by
    show tabs (i + 1) (stepT q i a) (r ++ [k]) = _
    rw [tabs_snoc k r (i + 1), List.length_cons, show i + 1 + r.length = i + (r.length + 1) from by omega]
    rfl
abbrev tMap (q : Int × Int × Int × Int) (ta tb tc td : Tok) (u m₀ : Str → Option Value) : Str → Option Value := fun z =>
  if z = Str.ofString "a" then some (.int q.1 ta) else if z = Str.ofString "b" then some (.int q.2.1 tb) else if z = Str.ofString "c" then some (.int q.2.2.1 tc) else if z = Str.ofString "d" then some (.int q.2.2.2 td)
  else if z = Str.ofString "dots" then u z else m₀ z
section
variable {prog : Program} {w : World} {A : Around} {E : Value → Shared → Prop} {s : Shared} {env : Env} {h₀ : Heap} {body : List Stmt} {Q : Flow → Shared → Prop}
def TurnT (h₀ : Heap) (L : Addr) (own news : List (Addr × Obj)) (m₀ : Str → Option Value) (q : Int × Int × Int × Int) (s₁ s₂ : Shared) : Prop :=
  ∃ h' tk m' ta tb tc td, s₂ = { s₁ with heap := h', toks := tk } ∧ Fr h₀ L h' m' ∧ News h₀ L h' (own ++ news) ∧
    m' (Str.ofString "a") = some (.int q.1 ta) ∧ m' (Str.ofString "b") = some (.int q.2.1 tb) ∧ m' (Str.ofString "c") = some (.int q.2.2.1 tc) ∧ m' (Str.ofString "d") = some (.int q.2.2.2 td) ∧
    ∀ z, z ≠ Str.ofString "row" → z ≠ Str.ofString "place" → z ≠ Str.ofString "a" → z ≠ Str.ofString "b" → z ≠ Str.ofString "c" → z ≠ Str.ofString "d" → z ≠ Str.ofString "dots" → m' z = m₀ z
theorem tMap_of {q : Int × Int × Int × Int} {ta tb tc td : Tok} {m₁ m₀ : Str → Option Value} {g : Str → Option Value} (ha : m₁ (Str.ofString "a") = some (.int q.1 ta)) (hb : m₁ (Str.ofString "b") = some (.int q.2.1 tb)) (hc : m₁ (Str.ofString "c") = some (.int q.2.2.1 tc)) (hd : m₁ (Str.ofString "d") = some (.int q.2.2.2 td))
    (hm : ∀ z, z ≠ Str.ofString "row" → z ≠ Str.ofString "place" → z ≠ Str.ofString "a" → z ≠ Str.ofString "b" → z ≠ Str.ofString "c" → z ≠ Str.ofString "d" → z ≠ Str.ofString "dots" → m₁ z = m₀ z) (v v' : Str → Option Value) :
    (fun z => if z = Str.ofString "row" then v z else if z = Str.ofString "place" then v' z else m₁ z) = fun z => if z = Str.ofString "row" then v z else if z = Str.ofString "place" then v' z else tMap q ta tb tc td m₁ m₀ z := by
  funext z
  by_cases h1 : z = Str.ofString "row"
  · simp only [if_pos h1]
  simp only [if_neg h1]
  by_cases h2 : z = Str.ofString "place"
  · simp only [if_pos h2]
  simp only [if_neg h2, tMap]
  by_cases h3 : z = Str.ofString "a"
  · rw [if_pos h3, h3, ha]
  by_cases h4 : z = Str.ofString "b"
  · rw [if_neg h3, if_pos h4, h4, hb]
  by_cases h5 : z = Str.ofString "c"
  · rw [if_neg h3, if_neg h4, if_pos h5, h5, hc]
  by_cases h6 : z = Str.ofString "d"
  · rw [if_neg h3, if_neg h4, if_neg h5, if_pos h6, h6, hd]
  by_cases h7 : z = Str.ofString "dots"
  · rw [if_neg h3, if_neg h4, if_neg h5, if_neg h6, if_pos h7]
  · rw [if_neg h3, if_neg h4, if_neg h5, if_neg h6, if_neg h7]
    exact hm z h1 h2 h3 h4 h5 h6 h7
theorem iter_table {rows : List Str} {xv : Value} {m₀ : Str → Option Value} {news : List (Addr × Obj)} {t1 t2 t3 t4 : Tok}
    (S : PairSrc prog w A E h₀ env ItemKind.str rows xv s m₀ news)
    (ha : m₀ (Str.ofString "a") = some (.int 1 t1)) (hb : m₀ (Str.ofString "b") = some (.int 0 t2)) (hc : m₀ (Str.ofString "c") = some (.int 0 t3)) (hd : m₀ (Str.ofString "d") = some (.int 1 t4))
    (turn : ∀ (i : Nat) row t tr q ta tb tc td (u : Str → Option Value) h tk own, row ∈ rows → i < rows.length → (∀ p ∈ own, ∀ q ∈ news, p.1 ≠ q.1) →
      Fr h₀ env.locals h (fun z => if z = Str.ofString "row" then some (.str row tr) else if z = Str.ofString "place" then some (.int i t) else tMap q ta tb tc td u m₀ z) → News h₀ env.locals h (own ++ news) →
      wpAny (model prog w) A (execs body env) (fun f s₂ => f = .next ∧ TurnT h₀ env.locals own news m₀ (stepT q i (dotsT row)) { s with heap := h, toks := tk } s₂) E { s with heap := h, toks := tk })
    (done : ∀ q ta tb tc td (u : Str → Option Value) h tk, q = tabs 0 (1, 0, 0, 1) (rows.map dotsT) →
      Fr h₀ env.locals h (fun z => if z = Str.ofString "row" then u z else if z = Str.ofString "place" then u z else tMap q ta tb tc td u m₀ z) → News h₀ env.locals h news → Q .next { s with heap := h, toks := tk }) :
    wpAny (model prog w) A (pyIter xv) (fun it s₂ => PairAt3 prog w A h₀ env (Str.ofString "place") (Str.ofString "row") body Q E it s₂) E s := by
  refine S _ _ body Q (fun i m nx => nx = news ∧ ∃ ta tb tc td, m (Str.ofString "a") = some (.int (tabs 0 (1, 0, 0, 1) ((rows.take i).map dotsT)).1 ta) ∧ m (Str.ofString "b") = some (.int (tabs 0 (1, 0, 0, 1) ((rows.take i).map dotsT)).2.1 tb) ∧
    m (Str.ofString "c") = some (.int (tabs 0 (1, 0, 0, 1) ((rows.take i).map dotsT)).2.2.1 tc) ∧ m (Str.ofString "d") = some (.int (tabs 0 (1, 0, 0, 1) ((rows.take i).map dotsT)).2.2.2 td) ∧
    ∀ z, z ≠ Str.ofString "row" → z ≠ Str.ofString "place" → z ≠ Str.ofString "a" → z ≠ Str.ofString "b" → z ≠ Str.ofString "c" → z ≠ Str.ofString "d" → z ≠ Str.ofString "dots" → m z = m₀ z)
    ⟨rfl, t1, t2, t3, t4, ha, hb, hc, hd, fun _ _ _ _ _ _ _ _ => rfl⟩ ?_ ?_
  · rintro i row t v m₁ nx s₁ own ⟨h, tk, rfl⟩ hrow hv ⟨rfl, ta, tb, tc, td, ga, gb, gc, gd, gm⟩ _ hsep F₁ N₁
    obtain ⟨tr, rfl⟩ := ItemKind.str_is hv
    have hi : i < rows.length := (List.getElem?_eq_some_iff.mp hrow).1
    have e := tMap_of (q := tabs 0 (1, 0, 0, 1) ((rows.take i).map dotsT)) (g := m₁) ga gb gc gd gm (fun _ => some (.str row tr)) (fun _ => some (.int i t))
    rw [e] at F₁
    refine wpAny_mono (turn i row t tr _ ta tb tc td m₁ h tk own (List.mem_of_getElem? hrow) hi hsep F₁ N₁) (fun f s₂ q => ?_) fun _ _ e => e
    obtain ⟨rfl, h', tk', m', a', b', c', d', e', F', N', ka, kb, kc, kd, km⟩ := q
    have hs : tabs 0 (1, 0, 0, 1) ((rows.take (i + 1)).map dotsT) = stepT (tabs 0 (1, 0, 0, 1) ((rows.take i).map dotsT)) i (dotsT row) := by
      rw [List.take_add_one, hrow, List.map_append]
      show tabs 0 (1, 0, 0, 1) (List.map dotsT (rows.take i) ++ [dotsT row]) = _
      rw [tabs_snoc, List.length_map, List.length_take, Nat.zero_add, Nat.min_eq_left (Nat.le_of_lt hi)]
    refine ⟨rfl, h', tk', m', _, e', F', N', rfl, rfl, a', b', c', d', ?_⟩
    rw [hs]
    exact ⟨ka, kb, kc, kd, km⟩
  · rintro h' tk m' nx F' N' _ ⟨rfl, ta, tb, tc, td, ga, gb, gc, gd, gm⟩
    rw [List.take_length] at ga gb gc gd
    refine done _ ta tb tc td m' h' tk rfl ?_ N'
    have e := tMap_of (q := tabs 0 (1, 0, 0, 1) (rows.map dotsT)) (g := m') ga gb gc gd gm m' m'
    rw [← e]
    have e2 : (fun z => if z = Str.ofString "row" then m' z else if z = Str.ofString "place" then m' z else m' z) = m' := by
      funext z
      split
      · rfl
      · split <;> rfl
    rw [e2]; exact F'
end
end Mine
end
section
open PySem PySem.W PyProof.Rows
namespace Mine
def rowsT (x : Str) : List Int := (Txt.split x (Str.ofString "\x0d\n")).map dotsT
def tableF (x : Str) : List Int := [(tabs 0 (1, 0, 0, 1) (rowsT x)).1, (tabs 0 (1, 0, 0, 1) (rowsT x)).2.1, (tabs 0 (1, 0, 0, 1) (rowsT x)).2.2.1, (tabs 0 (1, 0, 0, 1) (rowsT x)).2.2.2]
local macro_rules | `(tactic| walk_at "execs cons") => `(tactic| (k_here; (with_reducible show wpAny _ _ (execs _ _) _ _ (Shared.mk _ _ _ (_ + _) _)); refine le_toks ?_; intro tk htk))
local macro_rules | `(tactic| walk_at "execs nil") => `(tactic| (k_here; (with_reducible show wpAny _ _ (execs _ _) _ _ (Shared.mk _ _ _ (_ + _) _)); refine le_toks ?_; intro tk htk))
local macro_rules | `(tactic| walk_at "call builtin:str.split") => `(tactic| (k_here; refine my_split (by first | assumption | (dsimp only; omega)) (by k_asm) (by k_asm) (by decide +kernel) (by omega) ?_; intro D' l' h' k' el' hll' hl' hk' lt' F' N'; (try dsimp only)))
local macro_rules | `(tactic| walk_at "call type:enumerate") => `(tactic| (k_here; refine my_enum rfl (by k_asm) (by k_asm) (by assumption) ?_; intro h' e' F' N' S'; (try dsimp only)))
local macro_rules | `(tactic| walk_at "pyIter ref") => `(tactic| ((with_reducible show wpAny _ _ _ (fun it s₂ => PairAt3 _ _ _ _ _ _ _ _ _ _ it s₂) _ _); refine Stop.out ?_))
local macro_rules | `(tactic| walk_at "call ref") => `(tactic| (k_here; (with_reducible show wpAny _ _ (call (Value.ref 90) [Value.str _ _, Value.str _ _]) _ _ _); k_dflt (refine' count_c _ _ _ ?kt _ _ _ _ _ _ _ _ _ _ _ _ _ _ _ ?k1 ?k2 ?k3 ?k4 ?k5 ?kl ?_; (case k1 => k_asm); (case k2 => k_asm); (case k3 => k_asm); (case k4 => k_asm); (case k5 => k_asm); (case kt => omega); (case kl => (dsimp only; omega))); intro t9 h9 tk9 htk9 F9 N9; (try dsimp only); (try k_fold)))
theorem dotS_le : ∀ (l : List Nat) (a : Int), a ≤ l.foldl dotS a ∧ l.foldl dotS a ≤ a + l.length
  | [], a => by simp
  | c :: r, a => by
    have h := dotS_le r (dotS a c)
    rw [List.foldl_cons, List.length_cons]
    unfold dotS at h ⊢
    split at h <;> rename_i hc <;> simp only [hc, if_true, if_false] at h ⊢ <;> omega
theorem dotsT_le (row : Str) : 0 ≤ dotsT row ∧ dotsT row ≤ row.length := by
  have h := dotS_le row.cps.toList 0
  unfold dotsT
  simp only [Array.length_toList] at h
  have e : row.length = row.cps.size := rfl
  omega
theorem turnT_end {h₀ h' : Heap} {L : Addr} {own news nws : List (Addr × Obj)} {m₀ m' : Str → Option Value} {q : Int × Int × Int × Int} {a b c d : Int} {s₁ : Shared} {tk : Nat} {ta tb tc td : Tok}
    (F : Fr h₀ L h' m') (N : News h₀ L h' nws) (hs : ∀ p ∈ own ++ news, p ∈ nws)
    (ha : m' (Str.ofString "a") = some (.int a ta)) (hb : m' (Str.ofString "b") = some (.int b tb)) (hc : m' (Str.ofString "c") = some (.int c tc)) (hd : m' (Str.ofString "d") = some (.int d td)) (e : (a, b, c, d) = q)
    (hm : ∀ z, z ≠ Str.ofString "row" → z ≠ Str.ofString "place" → z ≠ Str.ofString "a" → z ≠ Str.ofString "b" → z ≠ Str.ofString "c" → z ≠ Str.ofString "d" → z ≠ Str.ofString "dots" → m' z = m₀ z) :
    TurnT h₀ L own news m₀ q s₁ { s₁ with heap := h', toks := tk } := by
  subst e
  exact ⟨h', tk, m', ta, tb, tc, td, rfl, F, fun p hp => N p (hs p hp), ha, hb, hc, hd, hm⟩
theorem news_sub {h₀ h : Heap} {L : Addr} {l l' : List (Addr × Obj)} (N : News h₀ L h l) (hs : ∀ p ∈ l', p ∈ l) : News h₀ L h l' := fun p hp => N p (hs p hp)
set_option maxRecDepth 100000 in
set_option maxHeartbeats 8000000 in
theorem table_c {w : World} {mean : ExcName → Option Value} {mg mb : Str → Option Value} {news : List (Addr × Obj)} (x : Str) (tx : Tok)
   (hx : x.length ≤ 1000) :
   ClL Challenge.rw_pg0024_01.row.prog w (hd.heap_39 w.params) hd.view_39 (looseW hd.view_39 [Str.ofString "_twin_re_1", Str.ofString "_twin_re_2"]) mean mg mb 104 news (fun _ => True) [.str x tx] (tableF x) := by
  w_top off
  k_fill
  dsimp only [ClL]; intros; rename_i hret
  k_steps
  · unfold Stop
    have S := ‹PairSrcL _ _ _ _ _ _ _ _ _ _ _ _›
    refine iter_table (PairSrcL.at S _ rfl) rfl rfl rfl rfl ?_ ?_
    · intro i row t tr q ta tb tc td u h' tk' own' hrow hi hsep F' N'
      have hd1 := dotsT_le row
      have hd2 := ‹∀ a ∈ _, Str.length a ≤ _› row hrow
      have hd3 : 0 ≤ dotsT row := hd1.1
      have hd4 : dotsT row < 4096 := by omega
      clear hd1 hd2
      k_steps
      · refine turnT_end (by assumption) (by assumption) (by intro p hp; repeat (first | exact hp | apply List.mem_cons_of_mem)) rfl rfl rfl rfl ?_ (by intro z h1 h2 h3 h4 h5 h6 h7; simp only [tMap, if_neg h1, if_neg h2, if_neg h3, if_neg h4, if_neg h5, if_neg h6, if_neg h7])
        rw [stepT, if_pos (by omega)]
      · refine turnT_end (by assumption) (by assumption) (by intro p hp; repeat (first | exact hp | apply List.mem_cons_of_mem)) rfl rfl rfl rfl ?_ (by intro z h1 h2 h3 h4 h5 h6 h7; simp only [tMap, if_neg h1, if_neg h2, if_neg h3, if_neg h4, if_neg h5, if_neg h6, if_neg h7])
        rw [stepT, if_neg (by omega)]
    · intro q ta tb tc td u h' tk' hq F' N'
      k_steps
      have kN := ‹News _ _ _ ((_, W.listOf _ _) :: _)›
      have el' := ‹List.map _ _ = Txt.split _ _›
      rw [el'] at hq
      refine hret _ [.int q.1 ta, .int q.2.1 tb, .int q.2.2.1 tc, .int q.2.2.2 td] 0 _ _ ?_ (by assumption) (news_sub kN ?_)
      · subst hq
        exact .cons _ _ (.cons _ _ (.cons _ _ (.cons _ _ .nil)))
      · intro p hp
        rcases List.mem_cons.mp hp with h | h
        · exact h ▸ List.mem_cons_self ..
        · exact List.mem_cons_of_mem _ (List.mem_cons_of_mem _ h)
end Mine
end
section
open PySem PySem.W PyProof.Rows
namespace Mine
def mat : List Bool → Int × Int × Int × Int
  | [] => (1, 0, 0, 1)
  | true :: r => ((mat r).1 + (mat r).2.2.1, (mat r).2.1 + (mat r).2.2.2, (mat r).2.2.1, (mat r).2.2.2)
  | false :: r => ((mat r).1, (mat r).2.1, (mat r).2.2.1 + (mat r).1, (mat r).2.2.2 + (mat r).2.1)
def upLast : List Int → List Int
  | [] => []
  | [k] => [k + 1]
  | k :: r => k :: upLast r
def fin : List Int → List Bool → List Int
  | ns, [] => ns
  | ns, true :: r => fin (ns ++ [0]) r
  | ns, false :: r => fin (upLast ns) r
theorem mat_pos : ∀ r : List Bool, 0 ≤ (mat r).1 ∧ 0 ≤ (mat r).2.1 ∧ 0 ≤ (mat r).2.2.1 ∧ 0 ≤ (mat r).2.2.2 ∧ 0 < (mat r).2.2.1 + (mat r).2.2.2
  | [] => by decide
  | true :: r => by
    have h := mat_pos r
    simp only [mat]
    omega
  | false :: r => by
    have h := mat_pos r
    simp only [mat]
    omega
theorem upLast_snoc (k : Int) : ∀ l : List Int, upLast (l ++ [k]) = l ++ [k + 1]
  | [] => rfl
  | [a] => rfl
  | a :: b :: r => by
    have h := upLast_snoc k (b :: r)
    show a :: upLast (b :: (r ++ [k])) = a :: (b :: r ++ [k + 1])
    exact congrArg (a :: ·) h
theorem ints_snoc {ys : List Value} {ns : List Int} (h : IntsAre ys ns) (hp : 0 < ys.length) : ∃ es k t ks, ys = es ++ [.int k t] ∧ ns = ks ++ [k] ∧ IntsAre es ks := by
  induction h with
  | nil => exact absurd hp (by simp)
  | cons k t r ih =>
    rename_i vs ms
    cases vs with
    | nil => cases r; exact ⟨[], k, t, [], rfl, rfl, .nil⟩
    | cons v vs' =>
      obtain ⟨es, k', t', ks, h1, h2, h3⟩ := ih (by simp)
      exact ⟨.int k t :: es, k', t', k :: ks, by rw [h1]; rfl, by rw [h2]; rfl, .cons k t h3⟩
structure BSt where
  toks : List Bool
  ta : Tok
  tb : Tok
  tc : Tok
  td : Tok
  ys : List Value
  n : Nat
local macro_rules | `(tactic| walk_at "setItem ref int") => `(tactic| (k_here; k_dflt (refine' setLast_U ?k1 ?k2 ?k3 ?_; (case k1 => k_asm); (case k2 => k_asm); (case k3 => k_upd); k_whole); intro h' F' N'; (try k_sweep)))
local macro_rules | `(tactic| walk_at "exec While") => `(tactic| (k_here; refine Stop.out ?_))
theorem back_end {h₀ h' : Heap} {L l : Addr} {rest nws : List (Addr × Obj)} {m₀ m' : Str → Option Value} {toks r : List Bool} {a b c d : Int} {ta tb tc td : Tok} {ys : List Value} {n tk : Nat} {ns : List Int} {s : Shared} (c₀ : BSt)
    (F : Fr h₀ L h' m') (N : News h₀ L h' nws) (hn : ∀ p ∈ (l, W.listOf ys.toArray n) :: rest, p ∈ nws)
    (ha : m' (Str.ofString "a") = some (.int a ta)) (hb : m' (Str.ofString "b") = some (.int b tb)) (hc : m' (Str.ofString "c") = some (.int c tc)) (hd : m' (Str.ofString "d") = some (.int d td))
    (ea : a = (mat r).1) (eb : b = (mat r).2.1) (ec : c = (mat r).2.2.1) (ed : d = (mat r).2.2.2)
    (hr : ∀ z, z ≠ Str.ofString "a" → z ≠ Str.ofString "b" → z ≠ Str.ofString "c" → z ≠ Str.ofString "d" → m' z = m₀ z)
    (hi : IntsAre ys ns) (hf : fin ns r = fin [0] toks) (hl : ys.length + r.length ≤ 1001) (hp : 0 < ys.length) (hm : r.length < c₀.toks.length) :
    KswEnd h₀ L s (fun c => (l, W.listOf c.ys.toArray c.n) :: rest)
      (fun c => [(Str.ofString "a", .int (mat c.toks).1 c.ta), (Str.ofString "b", .int (mat c.toks).2.1 c.tb), (Str.ofString "c", .int (mat c.toks).2.2.1 c.tc), (Str.ofString "d", .int (mat c.toks).2.2.2 c.td)])
      (fun _ => True) [] m₀ (fun c => ∃ ns, IntsAre c.ys ns ∧ fin ns c.toks = fin [0] toks ∧ c.ys.length + c.toks.length ≤ 1001 ∧ 0 < c.ys.length) (fun c => c.toks.length) c₀ { s with heap := h', toks := tk } := by
  subst ea eb ec ed
  refine ksw_end (⟨r, ta, tb, tc, td, ys, n⟩ : BSt) F N hn trivial ?_ ?_ ⟨ns, hi, hf, hl, hp⟩ hm
  · intro p hp
    simp only [List.mem_cons, List.not_mem_nil, or_false] at hp
    rcases hp with rfl | rfl | rfl | rfl
    · exact ha
    · exact hb
    · exact hc
    · exact hd
  · intro z hz _
    exact hr z (hz _ (.head _)) (hz _ (.tail _ (.head _))) (hz _ (.tail _ (.tail _ (.head _)))) (hz _ (.tail _ (.tail _ (.tail _ (.head _)))))
set_option maxRecDepth 100000 in
set_option maxHeartbeats 8000000 in
theorem back_c {w : World} {mean : ExcName → Option Value} {mg mb : Str → Option Value} {news : List (Addr × Obj)} (toks : List Bool) (ht : toks.length ≤ 1000) (D : Addr) (ta tb tc td : Tok) (nD : Nat) :
   ClL Challenge.rw_pg0024_01.row.prog w (hd.heap_39 w.params) hd.view_39 (looseW hd.view_39 [Str.ofString "_twin_re_1", Str.ofString "_twin_re_2"]) mean mg mb 111 ((D, W.listOf #[.int (mat toks).1 ta, .int (mat toks).2.1 tb, .int (mat toks).2.2.1 tc, .int (mat toks).2.2.2 td] nD) :: news) (fun _ => True) [.ref D] (fin [0] toks) := by
  w_top off
  k_fill
  dsimp only [ClL]; intros; rename_i hret
  k_steps
  · unfold Stop
    refine ksw_while (σ := BSt) (fun c => (_, W.listOf c.ys.toArray c.n) :: (D, W.listOf #[.int (mat toks).1 ta, .int (mat toks).2.1 tb, .int (mat toks).2.2.1 tc, .int (mat toks).2.2.2 td] nD) :: news)
      (fun c => [(Str.ofString "a", .int (mat c.toks).1 c.ta), (Str.ofString "b", .int (mat c.toks).2.1 c.tb), (Str.ofString "c", .int (mat c.toks).2.2.1 c.tc), (Str.ofString "d", .int (mat c.toks).2.2.2 c.td)])
      (fun _ => True) [] (fun c => ∃ ns, IntsAre c.ys ns ∧ fin ns c.toks = fin [0] toks ∧ c.ys.length + c.toks.length ≤ 1001 ∧ 0 < c.ys.length) (fun c => c.toks.length) ⟨toks, ta, tb, tc, td, _, _⟩ (by assumption) (by assumption) trivial ?_ ⟨[0], .cons _ _ .nil, rfl, by simp; omega, by simp⟩ ?_
    · intro p hp
      simp only [List.mem_cons, List.not_mem_nil, or_false] at hp
      rcases hp with rfl | rfl | rfl | rfl <;> rfl
    · rintro ⟨tks, ta', tb', tc', td', ys, n⟩ u h' tk' - ⟨ns, hys, hfin, hlen, hpos⟩ F' N'
      dsimp only at *
      rcases tks with _ | ⟨b, r⟩
      · simp only [mat] at F'
        k_steps
        have kN := ‹News _ _ _ ((_, W.listOf _ _) :: (_, W.listOf _ _) :: (_, W.listOf ys.toArray _) :: _)›
        refine hret _ ys n _ _ (by rw [← hfin]; exact hys) (by assumption) (fun p hp => kN p (List.mem_cons_of_mem _ (List.mem_cons_of_mem _ hp)))
      · obtain ⟨p1, p2, p3, p4, p5⟩ := mat_pos r
        cases b
        · obtain ⟨es, k, t, ks, rfl, rfl, hes⟩ := ints_snoc hys hpos
          simp only [mat] at F'
          k_steps
          · have hq := ‹[_, _, _, _] = [_, _, _, _]›
            simp only [List.cons.injEq, and_true] at hq
            omega
          · refine back_end (r := r) (ns := ks ++ [k + 1]) _ (by assumption) (by assumption) (fun p hp => List.mem_cons_of_mem _ (List.mem_cons_of_mem _ (List.mem_cons_of_mem _ hp))) rfl rfl rfl rfl rfl rfl (by omega) (by omega) ?_ (snoc_ints hes) ?_ ?_ (by simp) (by simp)
            · intro z h1 h2 h3 h4
              simp only [if_neg h3, if_neg h4, kstB, if_neg h1, if_neg h2]
              rfl
            · rw [← hfin]; simp only [fin, upLast_snoc]
            · simp only [List.length_append, List.length_cons, List.length_nil] at hlen ⊢; omega
          · refine back_end (r := r) (ns := ks ++ [k + 1]) _ (by assumption) (by assumption) (fun p hp => List.mem_cons_of_mem _ (List.mem_cons_of_mem _ (List.mem_cons_of_mem _ hp))) rfl rfl rfl rfl rfl rfl (by omega) (by omega) ?_ (snoc_ints hes) ?_ ?_ (by simp) (by simp)
            · intro z h1 h2 h3 h4
              simp only [if_neg h3, if_neg h4, kstB, if_neg h1, if_neg h2]
              rfl
            · rw [← hfin]; simp only [fin, upLast_snoc]
            · simp only [List.length_append, List.length_cons, List.length_nil] at hlen ⊢; omega
        · simp only [mat] at F'
          k_steps
          · have hq := ‹[_, _, _, _] = [_, _, _, _]›
            simp only [List.cons.injEq, and_true] at hq
            omega
          · have N9 := ‹News _ _ _ (_ :: _ :: _ :: (_, W.listOf (Array.push _ _) _) :: _)›
            rw [List.push_toArray] at N9
            refine back_end (r := r) (ns := ns ++ [0]) _ (by assumption) N9 (fun p hp => List.mem_cons_of_mem _ (List.mem_cons_of_mem _ (List.mem_cons_of_mem _ hp))) rfl rfl rfl rfl (by omega) (by omega) rfl rfl ?_ (snoc_ints hys) ?_ ?_ (by simp) (by simp)
            · intro z h1 h2 h3 h4
              simp only [if_neg h3, if_neg h4, kstB, if_neg h1, if_neg h2]
              rfl
            · rw [← hfin]; simp only [fin]
            · simp only [List.length_append, List.length_cons, List.length_nil] at hlen ⊢; omega
end Mine
end
section
namespace Mine
open PySem hiding step exec Frame resume
open PySem.Sre PySem.Sre.M
/-- the words of ^\. over lines -/
def code1 : Array Nat := #[14, 4, 0, 1, 1, 6, 1, 16, 46, 1]
/-- the words of the three ends -/
def code2 : Array Nat := #[14, 9, 4, 1, 2, 16, 10, 16, 13, 0, 7, 7, 16, 13, 16, 10, 15, 18, 5, 16, 10, 15, 13, 11, 16, 13, 5, 5, 0, 16, 10, 1, 15, 2, 0, 1]
theorem runFor_add (a b : Nat) (m : M) : runFor (a + b) m = runFor b (runFor a m) := by
  induction a generalizing m with
  | zero => simp [runFor]
  | succ a ih =>
    rw [Nat.succ_add]
    show (if m.outcome.isSome then m else runFor (a + b) m.step) = runFor b (if m.outcome.isSome then m else runFor a m.step)
    by_cases h : m.outcome.isSome = true
    · rw [if_pos h, if_pos h]
      cases b with
      | zero => rfl
      | succ b => show m = (if m.outcome.isSome then m else runFor b m.step); rw [if_pos h]
    · rw [if_neg h, if_neg h]; exact ih _
theorem runFor_step {m m' : M} {n : Nat} (h : m.outcome = none) (e : step m = m') : runFor (n + 1) m = runFor n m' := by
  show (if m.outcome.isSome then m else runFor n m.step) = _
  rw [h, e]; rfl
section
variable {m : M}
theorem step_exec (h : m.outcome = none) (ha : m.answer = none) (hp : m.pc < m.code.size) : step m = m.exec := by
  unfold step
  rw [h, ha]
  show (if m.pc < m.code.size then m.exec else _) = _
  rw [if_pos hp]
theorem step_lit (h : m.outcome = none) (ha : m.answer = none) (hp : m.pc < m.code.size) (hc : m.code.getD m.pc 0 = 16) (hl : m.pos < m.lim) (ht : m.text.getD m.pos 0 = m.code.getD (m.pc + 1) 0) :
    step m = { m with seen := m.seen.add 16, pc := m.pc + 2, pos := m.pos + 1 } := by
  have hc' : m.word 0 = 16 := hc
  rw [step_exec h ha hp]
  unfold exec
  rw [hc']
  show (if m.pos ≥ m.lim then _ else match accepts m.code m.pc (m.text.getD m.pos 0) (m.seen.add 16) with | .error why => _ | .ok (false, seen) => _ | .ok (true, seen) => _) = _
  rw [if_neg (by omega)]
  have ea : accepts m.code m.pc (m.text.getD m.pos 0) (m.seen.add 16) = .ok (true, m.seen.add 16) := by
    unfold accepts
    rw [hc]
    show Except.ok (m.text.getD m.pos 0 == m.code.getD (m.pc + 1) 0, m.seen.add 16) = _
    rw [ht, beq_self_eq_true]
  rw [ea]
  have ew : itemWidth m.code m.pc = 2 := by
    unfold itemWidth
    rw [hc]
    rfl
  show ({ m with seen := m.seen.add 16, pc := m.pc + itemWidth m.code m.pc, pos := m.pos + 1 } : M) = _
  rw [ew]
theorem step_litNo (h : m.outcome = none) (ha : m.answer = none) (hp : m.pc < m.code.size) (hc : m.code.getD m.pc 0 = 16) (hl : m.pos ≥ m.lim ∨ m.text.getD m.pos 0 ≠ m.code.getD (m.pc + 1) 0) :
    step m = { m with seen := m.seen.add 16, answer := some false } := by
  have hc' : m.word 0 = 16 := hc
  rw [step_exec h ha hp]
  unfold exec
  rw [hc']
  show (if m.pos ≥ m.lim then _ else match accepts m.code m.pc (m.text.getD m.pos 0) (m.seen.add 16) with | .error why => _ | .ok (false, seen) => _ | .ok (true, seen) => _) = _
  by_cases hlim : m.pos ≥ m.lim
  · rw [if_pos hlim]; rfl
  · rw [if_neg hlim]
    have hne := hl.resolve_left hlim
    have ea : accepts m.code m.pc (m.text.getD m.pos 0) (m.seen.add 16) = .ok (false, m.seen.add 16) := by
      unfold accepts
      rw [hc]
      show Except.ok (m.text.getD m.pos 0 == m.code.getD (m.pc + 1) 0, m.seen.add 16) = _
      rw [beq_eq_false_iff_ne.mpr hne]
    rw [ea]
    rfl
theorem step_jump (h : m.outcome = none) (ha : m.answer = none) (hp : m.pc < m.code.size) (hc : m.code.getD m.pc 0 = 15) :
    step m = { m with seen := m.seen.add 15, pc := m.pc + 1 + m.code.getD (m.pc + 1) 0 } := by
  have hc' : m.word 0 = 15 := hc
  rw [step_exec h ha hp]
  unfold exec
  rw [hc']
  rfl
theorem step_success (h : m.outcome = none) (ha : m.answer = none) (hp : m.pc < m.code.size) (hc : m.code.getD m.pc 0 = 1) (hw : m.wholeText = false) (hm : m.mustAdvance = false) :
    step m = { m with seen := m.seen.add 1, handed := m.pos, answer := some true } := by
  have hc' : m.word 0 = 1 := hc
  rw [step_exec h ha hp]
  unfold exec
  rw [hc']
  show (if (m.outermost && ((m.wholeText && m.pos != m.lim) || (m.mustAdvance && m.pos == m.start))) = true then _ else _) = _
  rw [hw, hm]
  simp only [Bool.false_and, Bool.or_self, Bool.and_false, Bool.false_eq_true, if_false]
  rfl
theorem step_at {y : Bool} (h : m.outcome = none) (ha : m.answer = none) (hp : m.pc < m.code.size) (hc : m.code.getD m.pc 0 = 6) (h1 : m.code.getD (m.pc + 1) 0 = 1) (hy : (m.pos == 0 || m.text.getD (m.pos - 1) 0 == 10) = y) :
    step m = match y with | true => { m with seen := (m.seen.add 6).add (43 + m.word 1), pc := m.pc + 2 } | false => { m with seen := (m.seen.add 6).add (43 + m.word 1), answer := some false } := by
  have hc' : m.word 0 = 6 := hc
  have h1' : m.word 1 = 1 := h1
  rw [step_exec h ha hp]
  unfold exec
  rw [hc']
  have ei : isAt { m with seen := m.seen.add 6 } (m.word 1) = .ok y := by
    rw [h1', ← hy]
    rfl
  show (match isAt { m with seen := m.seen.add 6 } (m.word 1) with | .error why => _ | .ok yes => _) = _
  rw [ei]
  cases y
  · rfl
  · rfl
theorem step_branch (h : m.outcome = none) (ha : m.answer = none) (hp : m.pc < m.code.size) (hc : m.code.getD m.pc 0 = 7) : step m = ({ m with seen := m.seen.add 7 } : M).alternative (m.pc + 1) (({ m with seen := m.seen.add 7 } : M).keep m.inner.isSome) := by
  have hc' : m.word 0 = 7 := hc
  rw [step_exec h ha hp]
  unfold exec
  rw [hc']
  rfl
theorem step_assertNot (h : m.outcome = none) (ha : m.answer = none) (hp : m.pc < m.code.size) (hc : m.code.getD m.pc 0 = 5) (h2 : m.code.getD (m.pc + 2) 0 = 0) :
    step m = ({ m with seen := m.seen.add 5 } : M).attempt { ({ m with seen := m.seen.add 5 } : M).frame .lookNot with kept := ({ m with seen := m.seen.add 5 } : M).keep (true && m.inner.isSome) } (m.pc + 3) (m.pos - 0) false := by
  have hc' : m.word 0 = 5 := hc
  have h2' : m.word 2 = 0 := h2
  rw [step_exec h ha hp]
  unfold exec
  rw [hc']
  show (if m.pos < m.word 2 then _ else ({ m with seen := m.seen.add 5 } : M).attempt _ (m.pc + 3) (m.pos - m.word 2) false) = _
  rw [h2', if_neg (by omega)]
  rfl
theorem step_answer {yes : Bool} {f : Frame} {rest : List Frame} (h : m.outcome = none) (ha : m.answer = some yes) (hf : m.frames = f :: rest) :
    step m = resume { m with answer := none, frames := rest, weight := m.weight - (1 + f.kept.marks.size), pc := f.pc, pos := f.pos, outermost := f.outermost } f yes := by
  cases m
  dsimp only at h ha hf
  subst h ha hf
  rfl
theorem step_final {yes : Bool} (h : m.outcome = none) (ha : m.answer = some yes) (hf : m.frames = []) : step m = { m with outcome := some (if yes then .matched else .failed) } := by
  cases m
  dsimp only at h ha hf
  subst h ha hf
  rfl
end
end Mine
end
section
namespace Mine
open PySem hiding step exec Frame resume
open PySem.Sre PySem.Sre.M
abbrev A1 (text : Array Nat) (s : Nat) (first : Bool) (sn : Seen) : M :=
  { code := code1, text := text, lim := text.size, start := s, lastStart := text.size, pc := 5, pos := s, handed := s, outermost := first, marks := #[],
    frames := [{ wait := .nextStart, pc := 5, pos := s, outermost := first }], weight := 1, seen := sn }
def lineDot (text : Array Nat) (i : Nat) : Bool := (i == 0 || text.getD (i - 1) 0 == 10) && (decide (i < text.size) && text.getD i 0 == 46)
theorem runS {m m' r : M} {n : Nat} (h : m.outcome = none) (e : step m = m') (k : runFor n m' = r) : runFor (n + 1) m = r := (runFor_step h e).trans k
theorem runG {m m' : M} {n : Nat} (P : M → Prop) (h : m.outcome = none) (e : step m = m') (k : P (runFor n m')) : P (runFor (n + 1) m) := by
  rw [runFor_step h e]; exact k
/-- the machine has found i, handed on e -/
def Hit (i e : Nat) (r : M) : Prop := r.outcome = some .matched ∧ r.start = i ∧ r.handed = e
def Out (r : M) : Prop := r.outcome = some .failed
theorem hit1 {text : Array Nat} {s : Nat} {f : Bool} {sn : Seen} (h : lineDot text s = true) : Hit s (s + 1) (runFor 5 (A1 text s f sn)) := by
  simp only [lineDot, Bool.and_eq_true, decide_eq_true_eq, beq_iff_eq] at h
  obtain ⟨h1, h2, h3⟩ := h
  refine runG _ rfl (step_at (y := true) rfl rfl (Nat.le_of_ble_eq_true rfl) rfl rfl h1) ?_
  refine runG _ rfl (step_lit rfl rfl (Nat.le_of_ble_eq_true rfl) rfl h2 h3) ?_
  refine runG _ rfl (step_success rfl rfl (Nat.le_of_ble_eq_true rfl) rfl rfl rfl) ?_
  refine runG _ rfl (step_answer rfl rfl rfl) ?_
  refine runG _ rfl (step_final (yes := true) rfl rfl rfl) ?_
  exact ⟨rfl, rfl, rfl⟩
/-- a start that has failed -/
abbrev B1 (text : Array Nat) (s : Nat) (f : Bool) (sn : Seen) (p q : Nat) (om : Bool) : M :=
  { code := code1, text := text, lim := text.size, start := s, lastStart := text.size, pc := p, pos := q, handed := s, outermost := om, marks := #[],
    frames := [{ wait := .nextStart, pc := 5, pos := s, outermost := f }], weight := 1, answer := some false, seen := sn }
theorem fail1 {text : Array Nat} {s : Nat} {f : Bool} {sn : Seen} (h : lineDot text s = false) :
    ∃ k sn' p q om, k ≤ 2 ∧ ∀ n, runFor (n + k) (A1 text s f sn) = runFor n (B1 text s f sn' p q om) := by
  cases h1 : (s == 0 || text.getD (s - 1) 0 == 10)
  · refine ⟨1, (sn.add 6).add 44, 5, s, f, by decide, fun n => ?_⟩
    refine runS rfl (step_at (y := false) rfl rfl (Nat.le_of_ble_eq_true rfl) rfl rfl h1) ?_
    exact rfl
  · have h2 : s ≥ text.size ∨ text.getD s 0 ≠ 46 := by
      simp only [lineDot, h1, Bool.true_and, Bool.and_eq_false_iff, decide_eq_false_iff_not, beq_eq_false_iff_ne] at h
      omega
    refine ⟨2, ((sn.add 6).add 44).add 16, 7, s, f, by decide, fun n => ?_⟩
    refine runS (n := n + 1) rfl (step_at (y := true) rfl rfl (Nat.le_of_ble_eq_true rfl) rfl rfl h1) ?_
    refine runS rfl (step_litNo rfl rfl (Nat.le_of_ble_eq_true rfl) rfl h2) ?_
    exact rfl
theorem resB1_go {text : Array Nat} {s : Nat} {f : Bool} {sn : Seen} {p q : Nat} {om : Bool} (hs : s < text.size) : step (B1 text s f sn p q om) = A1 text (s + 1) false sn := by
  refine (step_answer rfl rfl rfl).trans ?_
  unfold resume
  show (if false = true then _ else if s < text.size then _ else _) = _
  rw [if_neg (by decide), if_pos hs]
  rfl
theorem resB1_end {text : Array Nat} {s : Nat} {f : Bool} {sn : Seen} {p q : Nat} {om : Bool} (hs : ¬ s < text.size) : step (B1 text s f sn p q om) = { B1 text s f sn 5 s f with frames := [], weight := 0 } := by
  refine (step_answer rfl rfl rfl).trans ?_
  unfold resume
  show (if false = true then _ else if s < text.size then _ else _) = _
  rw [if_neg (by decide), if_neg hs]
  rfl
theorem miss1 {text : Array Nat} {s : Nat} {f : Bool} {sn : Seen} (h : lineDot text s = false) (hs : s < text.size) :
    ∃ k sn', k ≤ 3 ∧ ∀ n, runFor (n + k) (A1 text s f sn) = runFor n (A1 text (s + 1) false sn') := by
  obtain ⟨k, sn', p, q, om, hk, hr⟩ := fail1 (f := f) (sn := sn) h
  refine ⟨k + 1, sn', by omega, fun n => ?_⟩
  rw [show n + (k + 1) = (n + 1) + k from by omega, hr (n + 1)]
  exact runFor_step rfl (resB1_go hs)
theorem end1 {text : Array Nat} {s : Nat} {f : Bool} {sn : Seen} (h : lineDot text s = false) (hs : ¬ s < text.size) :
    ∃ k, k ≤ 4 ∧ Out (runFor k (A1 text s f sn)) := by
  obtain ⟨k, sn', p, q, om, hk, hr⟩ := fail1 (f := f) (sn := sn) h
  refine ⟨2 + k, by omega, ?_⟩
  rw [hr 2]
  refine runG _ rfl (resB1_end hs) ?_
  refine runG _ rfl (step_final (yes := false) rfl rfl rfl) ?_
  exact rfl
theorem lineDot_lt {text : Array Nat} {i : Nat} (h : lineDot text i = true) : i < text.size := by
  simp only [lineDot, Bool.and_eq_true, decide_eq_true_eq] at h
  exact h.2.1
/-- the search for the first dot that opens a line -/
theorem search1 (text : Array Nat) : ∀ (d s : Nat) (f : Bool) (sn : Seen), text.size - s = d → s ≤ text.size →
    (∃ i n, s ≤ i ∧ lineDot text i = true ∧ (∀ j, s ≤ j → j < i → lineDot text j = false) ∧ n ≤ 4 * d + 5 ∧ Hit i (i + 1) (runFor n (A1 text s f sn))) ∨
    ((∀ j, s ≤ j → lineDot text j = false) ∧ ∃ n, n ≤ 4 * d + 5 ∧ Out (runFor n (A1 text s f sn))) := by
  intro d
  induction d with
  | zero =>
    intro s f sn hd hs
    cases h : lineDot text s
    · obtain ⟨k, hk, ho⟩ := end1 (f := f) (sn := sn) h (by omega)
      refine .inr ⟨fun j hj => ?_, k, by omega, ho⟩
      cases h' : lineDot text j
      · rfl
      · have := lineDot_lt h'; omega
    · have := lineDot_lt h; omega
  | succ d ih =>
    intro s f sn hd hs
    cases h : lineDot text s
    · obtain ⟨k, sn', hk, hr⟩ := miss1 (f := f) (sn := sn) h (by omega)
      rcases ih (s + 1) false sn' (by omega) (by omega) with ⟨i, n, hi, hl, hb, hn, e⟩ | ⟨hb, n, hn, e⟩
      · refine .inl ⟨i, n + k, by omega, hl, fun j hj hji => ?_, by omega, by rw [hr n]; exact e⟩
        by_cases hjs : j = s
        · exact hjs ▸ h
        · exact hb j (by omega) hji
      · refine .inr ⟨fun j hj => ?_, n + k, by omega, by rw [hr n]; exact e⟩
        by_cases hjs : j = s
        · exact hjs ▸ h
        · exact hb j (by omega)
    · exact .inl ⟨s, 5, Nat.le_refl _, h, fun j a b => by omega, by omega, hit1 (f := f) (sn := sn) h⟩
/-- the machine that forSearch lays -/
theorem forSearch1 (text : Array Nat) (s : Nat) (hs : s < text.size) : forSearch code1 text 0 s text.size false = A1 text s true (({} : Seen).add 14) := by
  have h1 : ¬ (s > text.size ∨ text.size - s < 1) := by omega
  unfold forSearch
  simp only [show (header code1) = (1, 5) from rfl]
  rw [if_neg (by simpa using h1)]
  rfl
theorem forSearch1_end (text : Array Nat) (s : Nat) (hs : text.size ≤ s) : ∃ n, n ≤ 1 ∧ Out (runFor n (forSearch code1 text 0 s text.size false)) := by
  have h1 : s > text.size ∨ text.size - s < 1 := by omega
  have e : ∃ m, forSearch code1 text 0 s text.size false = m ∧ m.outcome = none ∧ m.answer = some false ∧ m.frames = [] := by
    unfold forSearch
    simp only [show (header code1) = (1, 5) from rfl]
    rw [if_pos (by simpa using h1)]
    exact ⟨_, rfl, rfl, rfl, rfl⟩
  obtain ⟨m, e, h2, h3, h4⟩ := e
  rw [e]
  exact ⟨1, Nat.le_refl _, runG _ (n := 0) h2 (step_final h2 h3 h4) rfl⟩
end Mine
end
section
namespace Mine
open PySem hiding step exec Frame resume
open PySem.Sre PySem.Sre.M
abbrev A2 (text : Array Nat) (s : Nat) (first : Bool) (sn : Seen) : M :=
  { code := code2, text := text, lim := text.size, start := s, lastStart := text.size, pc := 10, pos := s, handed := s, outermost := first, marks := #[],
    frames := [{ wait := .nextStart, pc := 10, pos := s, outermost := first }], weight := 1, seen := sn }
def isEnd (text : Array Nat) (i : Nat) : Bool := decide (i < text.size) && (text.getD i 0 == 10 || text.getD i 0 == 13)
theorem hit2a {text : Array Nat} {s : Nat} {f : Bool} {sn : Seen} (hs : s < text.size) (hc : text.getD s 0 = 13) (hs' : s + 1 < text.size) (hc' : text.getD (s + 1) 0 = 10) : Hit s (s + 2) (runFor 8 (A2 text s f sn)) := by
  refine runG _ rfl (step_branch rfl rfl (Nat.le_of_ble_eq_true rfl) rfl) ?_
  refine runG _ rfl (step_lit rfl rfl (Nat.le_of_ble_eq_true rfl) rfl hs hc) ?_
  refine runG _ rfl (step_lit rfl rfl (Nat.le_of_ble_eq_true rfl) rfl hs' hc') ?_
  refine runG _ rfl (step_jump rfl rfl (Nat.le_of_ble_eq_true rfl) rfl) ?_
  refine runG _ rfl (step_success rfl rfl (Nat.le_of_ble_eq_true rfl) rfl rfl rfl) ?_
  refine runG _ rfl (step_answer rfl rfl rfl) ?_
  refine runG _ rfl (step_answer rfl rfl rfl) ?_
  refine runG _ rfl (step_final (yes := true) rfl rfl rfl) ?_
  exact ⟨rfl, rfl, rfl⟩
/-- the machine within an alternative -/
abbrev D2 (text : Array Nat) (s : Nat) (f : Bool) (sn : Seen) (alt p q : Nat) (om : Bool) (an : Option Bool) : M :=
  { code := code2, text := text, lim := text.size, start := s, lastStart := text.size, pc := p, pos := q, handed := s, outermost := om, marks := #[],
    frames := [{ wait := .nextBranch, pc := alt, pos := s, outermost := f, kept := { lastmark := -1, lastindex := -1, whole := false, marks := #[] } }, { wait := .nextStart, pc := 10, pos := s, outermost := f }], weight := 2, answer := an, seen := sn }
theorem d2_branch {text : Array Nat} {s : Nat} {f : Bool} {sn : Seen} : step (A2 text s f sn) = D2 text s f (sn.add 7) 11 12 s f none :=
  (step_branch rfl rfl (Nat.le_of_ble_eq_true rfl) rfl).trans rfl
theorem d2_lit {text : Array Nat} {s : Nat} {f : Bool} {sn : Seen} {alt p q : Nat} {om : Bool} (hp : p < code2.size) (h16 : code2.getD p 0 = 16) (hl : q < text.size) (hc : text.getD q 0 = code2.getD (p + 1) 0) :
    step (D2 text s f sn alt p q om none) = D2 text s f (sn.add 16) alt (p + 2) (q + 1) om none := (step_lit rfl rfl hp h16 hl hc).trans rfl
theorem d2_litNo {text : Array Nat} {s : Nat} {f : Bool} {sn : Seen} {alt p q : Nat} {om : Bool} (hp : p < code2.size) (h16 : code2.getD p 0 = 16) (hl : q ≥ text.size ∨ text.getD q 0 ≠ code2.getD (p + 1) 0) :
    step (D2 text s f sn alt p q om none) = D2 text s f (sn.add 16) alt p q om (some false) := (step_litNo rfl rfl hp h16 hl).trans rfl
theorem d2_next {text : Array Nat} {s : Nat} {f : Bool} {sn : Seen} {alt p q nx : Nat} {om : Bool} (hn : alt + code2.getD alt 0 = nx) (h0 : (code2.getD nx 0 == 0) = false) :
    step (D2 text s f sn alt p q om (some false)) = D2 text s f sn nx (nx + 1) s f none := by
  refine (step_answer rfl rfl rfl).trans ?_
  show alternative _ (alt + code2.getD alt 0) _ = _
  rw [hn]
  unfold alternative
  show (if (code2.getD nx 0 == 0) = true then _ else _) = _
  rw [h0, if_neg (by decide)]
  rfl
theorem d2_jump {text : Array Nat} {s : Nat} {f : Bool} {sn : Seen} {alt p q : Nat} {om : Bool} (hp : p < code2.size) (h15 : code2.getD p 0 = 15) (e : p + 1 + code2.getD (p + 1) 0 = 35) :
    step (D2 text s f sn alt p q om none) = D2 text s f (sn.add 15) alt 35 q om none := by
  refine (step_jump rfl rfl hp h15).trans ?_
  show D2 text s f (sn.add 15) alt (p + 1 + code2.getD (p + 1) 0) q om none = _
  rw [e]
/-- from the last word on -/
theorem d2_end {text : Array Nat} {s : Nat} {f : Bool} {sn : Seen} {alt q : Nat} {om : Bool} : Hit s q (runFor 4 (D2 text s f sn alt 35 q om none)) := by
  refine runG _ rfl (step_success rfl rfl (Nat.le_of_ble_eq_true rfl) rfl rfl rfl) ?_
  refine runG _ rfl (step_answer rfl rfl rfl) ?_
  refine runG _ rfl (step_answer rfl rfl rfl) ?_
  refine runG _ rfl (step_final (yes := true) rfl rfl rfl) ?_
  exact ⟨rfl, rfl, rfl⟩
theorem hit2c {text : Array Nat} {s : Nat} {f : Bool} {sn : Seen} (hs : s < text.size) (hc : text.getD s 0 = 10) : Hit s (s + 1) (runFor 9 (A2 text s f sn)) := by
  refine runG _ rfl d2_branch ?_
  refine runG _ rfl (d2_litNo (by decide) rfl (.inr (by show text.getD s 0 ≠ 13; omega))) ?_
  refine runG _ rfl (d2_next (nx := 18) rfl rfl) ?_
  refine runG _ rfl (d2_lit (by decide) rfl hs hc) ?_
  refine runG _ rfl (d2_jump (by decide) rfl rfl) ?_
  exact d2_end
/-- within the look ahead -/
abbrev L2 (text : Array Nat) (s : Nat) (f : Bool) (sn : Seen) (p q : Nat) (om : Bool) (an : Option Bool) : M :=
  { code := code2, text := text, lim := text.size, start := s, lastStart := text.size, pc := p, pos := q, handed := s + 1, outermost := om, marks := #[],
    frames := [{ wait := .lookNot, pc := 26, pos := s + 1, outermost := f, kept := { lastmark := -1, lastindex := -1, whole := false, marks := #[] } }, { wait := .nextBranch, pc := 23, pos := s, outermost := f, kept := { lastmark := -1, lastindex := -1, whole := false, marks := #[] } }, { wait := .nextStart, pc := 10, pos := s, outermost := f }], weight := 3, answer := an, seen := sn }
theorem l2_in {text : Array Nat} {s : Nat} {f : Bool} {sn : Seen} : step (D2 text s f sn 23 26 (s + 1) f none) = L2 text s f (sn.add 5) 29 (s + 1) false none :=
  (step_assertNot rfl rfl (Nat.le_of_ble_eq_true rfl) rfl rfl).trans rfl
theorem l2_no {text : Array Nat} {s : Nat} {f : Bool} {sn : Seen} (hn : s + 1 ≥ text.size ∨ text.getD (s + 1) 0 ≠ 10) : step (L2 text s f sn 29 (s + 1) false none) = L2 text s f (sn.add 16) 29 (s + 1) false (some false) :=
  (step_litNo rfl rfl (Nat.le_of_ble_eq_true rfl) rfl hn).trans rfl
theorem l2_out {text : Array Nat} {s : Nat} {f : Bool} {sn : Seen} : step (L2 text s f sn 29 (s + 1) false (some false)) = { D2 text s f sn 23 32 (s + 1) f none with handed := s + 1 } :=
  (step_answer rfl rfl rfl).trans rfl
theorem d2_end' {text : Array Nat} {s : Nat} {f : Bool} {sn : Seen} : Hit s (s + 1) (runFor 5 { D2 text s f sn 23 32 (s + 1) f none with handed := s + 1 }) := by
  refine runG _ rfl ((step_jump rfl rfl (Nat.le_of_ble_eq_true rfl) rfl).trans (show _ = { D2 text s f (sn.add 15) 23 35 (s + 1) f none with handed := s + 1 } from rfl)) ?_
  refine runG _ rfl (step_success rfl rfl (Nat.le_of_ble_eq_true rfl) rfl rfl rfl) ?_
  refine runG _ rfl (step_answer rfl rfl rfl) ?_
  refine runG _ rfl (step_answer rfl rfl rfl) ?_
  refine runG _ rfl (step_final (yes := true) rfl rfl rfl) ?_
  exact ⟨rfl, rfl, rfl⟩
theorem hit2b {text : Array Nat} {s : Nat} {f : Bool} {sn : Seen} (hs : s < text.size) (hc : text.getD s 0 = 13) (hn : s + 1 ≥ text.size ∨ text.getD (s + 1) 0 ≠ 10) : Hit s (s + 1) (runFor 15 (A2 text s f sn)) := by
  refine runG _ rfl d2_branch ?_
  refine runG _ rfl (d2_lit (by decide) rfl hs hc) ?_
  refine runG _ rfl (d2_litNo (by decide) rfl hn) ?_
  refine runG _ rfl (d2_next (nx := 18) rfl rfl) ?_
  refine runG _ rfl (d2_litNo (by decide) rfl (.inr (by show text.getD s 0 ≠ 10; omega))) ?_
  refine runG _ rfl (d2_next (nx := 23) rfl rfl) ?_
  refine runG _ rfl (d2_lit (by decide) rfl hs hc) ?_
  refine runG _ rfl l2_in ?_
  refine runG _ rfl (l2_no hn) ?_
  refine runG _ rfl l2_out ?_
  exact d2_end'
/-- where the mark of an end that opens at i is over -/
def endOf (text : Array Nat) (i : Nat) : Nat := if text.getD i 0 = 13 ∧ i + 1 < text.size ∧ text.getD (i + 1) 0 = 10 then i + 2 else i + 1
theorem hit2 {text : Array Nat} {s : Nat} {f : Bool} {sn : Seen} (h : isEnd text s = true) : ∃ n, n ≤ 15 ∧ Hit s (endOf text s) (runFor n (A2 text s f sn)) := by
  simp only [isEnd, Bool.and_eq_true, decide_eq_true_eq, Bool.or_eq_true, beq_iff_eq] at h
  obtain ⟨hs, h | h⟩ := h
  · refine ⟨9, by decide, ?_⟩
    rw [endOf, if_neg (by omega)]
    exact hit2c hs h
  · by_cases hn : s + 1 < text.size ∧ text.getD (s + 1) 0 = 10
    · refine ⟨8, by decide, ?_⟩
      rw [endOf, if_pos ⟨h, hn⟩]
      exact hit2a hs h hn.1 hn.2
    · refine ⟨15, by decide, ?_⟩
      rw [endOf, if_neg (fun q => hn q.2)]
      exact hit2b hs h (by omega)
theorem inSet2 (c : Nat) (sn : Seen) : ∃ sn', inSet code2 c 36 5 true sn = .ok ((c == 10 || c == 13), sn') := by
  by_cases h1 : c = 10
  · subst h1
    exact ⟨_, rfl⟩
  · have e1 : (c == 10) = false := beq_eq_false_iff_ne.mpr h1
    by_cases h2 : c = 13
    · subst h2
      exact ⟨_, rfl⟩
    · have e2 : (c == 13) = false := beq_eq_false_iff_ne.mpr h2
      refine ⟨((sn.add 16).add 16).add 0, ?_⟩
      rw [e1, e2]
      show (if (c == 10) = true then _ else if (c == 13) = true then _ else _) = _
      rw [e1, e2]
      rfl
theorem admitted2 (m : M) (hm : m.code = code2) : ∀ (fuel s : Nat) (sn : Seen), m.lim = m.text.size → m.lim < fuel + s →
    ∃ sn', (∃ i, s ≤ i ∧ isEnd m.text i = true ∧ (∀ j, s ≤ j → j < i → isEnd m.text j = false) ∧ admitted m fuel s sn = .ok (some i, sn')) ∨ ((∀ j, s ≤ j → isEnd m.text j = false) ∧ admitted m fuel s sn = .ok (none, sn')) := by
  intro fuel
  induction fuel with
  | zero =>
    intro s sn hl hf
    refine ⟨sn, .inr ⟨fun j hj => ?_, rfl⟩⟩
    unfold isEnd
    rw [decide_eq_false (by omega)]
    rfl
  | succ fuel ih =>
    intro s sn hl hf
    unfold admitted
    by_cases hs : s ≥ m.lim
    · rw [if_pos hs]
      refine ⟨sn, .inr ⟨fun j hj => ?_, rfl⟩⟩
      unfold isEnd
      rw [decide_eq_false (by omega)]
      rfl
    · rw [if_neg hs]
      obtain ⟨sn1, e1⟩ := inSet2 (m.text.getD s 0) sn
      rw [hm, show code2.size = 36 from rfl, e1]
      have hE : isEnd m.text s = (m.text.getD s 0 == 10 || m.text.getD s 0 == 13) := by
        unfold isEnd
        rw [decide_eq_true (by omega)]
        rfl
      cases hc : (m.text.getD s 0 == 10 || m.text.getD s 0 == 13)
      · rw [hc] at hE
        obtain ⟨sn', h | h⟩ := ih (s + 1) sn1 hl (by omega)
        · obtain ⟨i, hi, h1, h2, h3⟩ := h
          refine ⟨sn', .inl ⟨i, by omega, h1, fun j hj hji => ?_, h3⟩⟩
          by_cases hjs : j = s
          · exact hjs ▸ hE
          · exact h2 j (by omega) hji
        · obtain ⟨h1, h2⟩ := h
          refine ⟨sn', .inr ⟨fun j hj => ?_, h2⟩⟩
          by_cases hjs : j = s
          · exact hjs ▸ hE
          · exact h1 j (by omega)
      · rw [hc] at hE
        exact ⟨sn1, .inl ⟨s, Nat.le_refl _, hE, fun j a b => by omega, rfl⟩⟩
abbrev M2 (text : Array Nat) (s : Nat) : M := { code := code2, text := text, lim := text.size, start := s, lastStart := text.size, pc := 10, pos := s, handed := s, marks := #[], seen := ({} : Seen).add 14 }
theorem forSearch2_go (text : Array Nat) (s : Nat) (h1 : ¬ (s > text.size ∨ text.size - s < 1)) : forSearch code2 text 0 s text.size false = (M2 text s).attemptFrom s true := by
  unfold forSearch
  simp only [show (header code2) = (1, 10) from rfl]
  rw [if_neg (by simpa using h1)]
  rfl
theorem forSearch2_end (text : Array Nat) (s : Nat) (h1 : s > text.size ∨ text.size - s < 1) : Out (runFor 1 (forSearch code2 text 0 s text.size false)) := by
  have e : ∃ m, forSearch code2 text 0 s text.size false = m ∧ m.outcome = none ∧ m.answer = some false ∧ m.frames = [] := by
    unfold forSearch
    simp only [show (header code2) = (1, 10) from rfl]
    rw [if_pos (by simpa using h1)]
    exact ⟨_, rfl, rfl, rfl, rfl⟩
  obtain ⟨m, e, h2, h3, h4⟩ := e
  rw [e]
  exact runG _ (n := 0) h2 (step_final h2 h3 h4) rfl
theorem m2_from (text : Array Nat) (s : Nat) : (M2 text s).attemptFrom s true = match admitted (M2 text s) ((M2 text s).lim + 1 - s) s (M2 text s).seen with | .ok (some i, seen) => A2 text i true seen | .ok (none, seen) => ({ M2 text s with seen := seen } : M).say false | .error why => (M2 text s).stick why := rfl
theorem forSearch2 (text : Array Nat) (s : Nat) :
    (∃ i n, s ≤ i ∧ isEnd text i = true ∧ (∀ j, s ≤ j → j < i → isEnd text j = false) ∧ n ≤ 15 ∧ Hit i (endOf text i) (runFor n (forSearch code2 text 0 s text.size false))) ∨
    ((∀ j, s ≤ j → isEnd text j = false) ∧ ∃ n, n ≤ 15 ∧ Out (runFor n (forSearch code2 text 0 s text.size false))) := by
  by_cases h1 : s > text.size ∨ text.size - s < 1
  · refine .inr ⟨fun j hj => ?_, 1, by decide, forSearch2_end text s h1⟩
    unfold isEnd
    rw [decide_eq_false (by omega)]
    rfl
  · rw [forSearch2_go text s h1, m2_from]
    obtain ⟨sn', h | h⟩ := admitted2 (M2 text s) rfl ((M2 text s).lim + 1 - s) s (M2 text s).seen rfl (by show text.size < text.size + 1 - s + s; omega)
    · obtain ⟨i, hi, g1, g2, g3⟩ := h
      rw [g3]
      obtain ⟨n, hn, hh⟩ := hit2 (f := true) (sn := sn') g1
      exact .inl ⟨i, n, hi, g1, g2, hn, hh⟩
    · obtain ⟨g1, g2⟩ := h
      rw [g2]
      exact .inr ⟨g1, 1, by decide, runG _ (n := 0) rfl (step_final (yes := false) rfl rfl rfl) rfl⟩
end Mine
end
section
open PySem PySem.W PyProof.Rows
namespace Mine
open PySem.Sre PySem.Builtin PySem.Builtin.Re
/-- a compiled pattern with no groups, for texts -/
def PatAt (h : Heap) (P : Addr) (code : Array Nat) : Prop :=
  ∃ (fs : Array Value) (T : Addr) (ws : Array Value) (n : Nat) (oT : Obj) (o : Obj), h.get? P = some o ∧ o.data = .fields fs ∧ o.cls = .type "re.Pattern" ∧ fs.getD 5 .none = .ref T ∧ reRawNat (fs.getD 2 .none) = 0 ∧ reRawNat (fs.getD 6 .none) = 0 ∧
    h.get? T = some oT ∧ oT.data = .seq ws n ∧ (ws.map reRawOf).map (·.toNat) = code
theorem PatAt.keeps {h h' : Heap} {P : Addr} {code : Array Nat} (x : PatAt h P code) (hk : ∀ b o, h.get? b = some o → h'.get? b = some o) : PatAt h' P code := by
  obtain ⟨fs, T, ws, n, oT, o, h1, h2, h3, h4, h5, h6, h7, h8, h9⟩ := x
  exact ⟨fs, T, ws, n, oT, o, hk _ _ h1, h2, h3, h4, h5, h6, hk _ _ h7, h8, h9⟩
section
variable {prog : Program} {w : World} {M : Model} {A : Around} {E : Value → Shared → Prop} {s : Shared}
theorem runFor_stays (b : Nat) {m : Sre.M} (h : m.outcome.isSome = true) : Sre.M.runFor b m = m := by
  cases b with
  | zero => rfl
  | succ b => show (if m.outcome.isSome then m else _) = m; rw [if_pos h]
theorem runFor_final {m : Sre.M} {a b : Nat} (ha : (Sre.M.runFor a m).outcome.isSome = true) (hb : (Sre.M.runFor b m).outcome.isSome = true) : Sre.M.runFor a m = Sre.M.runFor b m := by
  rcases Nat.le_total a b with h | h
  · rw [show b = a + (b - a) from by omega, runFor_add, runFor_stays _ ha]
  · rw [show a = b + (a - b) from by omega, runFor_add, runFor_stays _ hb]
theorem wp_drive {n : Nat} {r : Sre.M} {Q : Sre.M → Shared → Prop} (hr : r.outcome.isSome = true) : ∀ (turns : Nat) (n : Nat) (m : Sre.M), Sre.M.runFor n m = r → n < 4 * turns → Q r s → wpAny M A (reDrive turns m) Q E s := by
  intro turns
  induction turns with
  | zero => intro n m _ hn _; omega
  | succ turns ih =>
    intro n m e hn hq
    show wpAny M A (if (m.runFor reTurnSteps).outcome.isSome then pure (m.runFor reTurnSteps) else do rule "sre.turn"; reDrive turns (m.runFor reTurnSteps)) Q E s
    by_cases h : (m.runFor reTurnSteps).outcome.isSome = true
    · rw [if_pos h]
      have : m.runFor reTurnSteps = r := by rw [← e]; exact runFor_final h (by rw [e]; exact hr)
      rw [this]
      exact wpAny_pure hq
    · rw [if_neg h]
      have h4 : 4 ≤ n := by
        refine Nat.not_lt.mp fun hlt => h ?_
        show (Sre.M.runFor 4 m).outcome.isSome = true
        rw [show 4 = n + (4 - n) from by omega, runFor_add, e, runFor_stays _ hr]
        exact hr
      refine wpAny_bind (wpAny_rule (ih (n - 4) _ ?_ (by omega) hq))
      show Sre.M.runFor (n - 4) (Sre.M.runFor 4 m) = r
      rw [← runFor_add, show 4 + (n - 4) = n from by omega]; exact e
theorem wp_rules {f : Nat → Bool} {g : Nat → String} {Q : PUnit → Shared → Prop} (hq : Q ⟨⟩ s) : ∀ l : List Nat, wpAny M A (forIn l PUnit.unit fun i _ => do
    if f i then rule (g i)
    pure (ForInStep.yield PUnit.unit)) Q E s
  | [] => wpAny_pure hq
  | i :: l => by
    rw [List.forIn_cons]
    refine wpAny_bind ?_
    split
    · exact wpAny_bind (wpAny_rule (wpAny_pure (wp_rules hq l)))
    · exact wpAny_pure (wp_rules hq l)
theorem wp_found {m : Sre.M} {n i e : Nat} {Q : Option Sre.M → Shared → Prop} (h : Hit i e (Sre.M.runFor n m)) (hn : n ≤ 2 ^ 60) (hq : ∀ r : Sre.M, r.start = i → r.handed = e → Q (some r) s) : wpAny M A (reRunToEnd m) Q E s := by
  obtain ⟨h1, h2, h3⟩ := h
  unfold reRunToEnd
  refine wpAny_bind (wp_drive (n := 0) (r := Sre.M.runFor n m) (by rw [h1]; rfl) (2 ^ 64) n m rfl (by omega) ?_)
  refine wpAny_bind (wp_rules ?_ _)
  rw [h1]
  exact wpAny_pure (hq _ h2 h3)
theorem wp_notFound {m : Sre.M} {n : Nat} {Q : Option Sre.M → Shared → Prop} (h : Mine.Out (Sre.M.runFor n m)) (hn : n ≤ 2 ^ 60) (hq : Q none s) : wpAny M A (reRunToEnd m) Q E s := by
  have h1 : (Sre.M.runFor n m).outcome = some .failed := h
  unfold reRunToEnd
  refine wpAny_bind (wp_drive (n := 0) (r := Sre.M.runFor n m) (by rw [h1]; rfl) (2 ^ 64) n m rfl (by omega) ?_)
  refine wpAny_bind (wp_rules ?_ _)
  rw [h1]
  exact wpAny_pure hq
theorem wp_target {P : Addr} {code : Array Nat} {x : Str} {t : Tok} {Q : ReTarget → Shared → Prop} (hP : PatAt s.heap P code)
    (h : Q { pattern := .ref P, string := .str x t, code := code, text := x.cps, kind := 0, groups := 0, pos := 0, lim := x.cps.size } s) : wpAny M A (reWholeTarget (.ref P) (.str x t)) Q E s := by
  obtain ⟨fs, T, ws, n, oT, o, h1, h2, h3, h4, h5, h6, h7, h8, h9⟩ := hP
  unfold reWholeTarget
  refine wpAny_bind (wpAny_fieldsOf h1 h2 ?_)
  rw [h4, h5, h6]
  show wpAny M A (reRawItems (.ref T) >>= fun c => pure ({ pattern := .ref P, string := .str x t, code := c.map (·.toNat), text := x.cps, kind := 0, groups := 0, pos := 0, lim := x.cps.size } : ReTarget)) Q E s
  refine wpAny_bind ?_
  unfold reRawItems
  refine wpAny_bind (wpAny_seqItems h7 h8 (wpAny_pure (wpAny_pure ?_)))
  show Q { pattern := .ref P, string := .str x t, code := (ws.map reRawOf).map (·.toNat), text := x.cps, kind := 0, groups := 0, pos := 0, lim := x.cps.size } s
  rw [h9]
  exact h
end
end Mine
end
section
open PySem PySem.W PyProof.Rows
namespace Mine
open PySem.Sre PySem.Builtin PySem.Builtin.Re
theorem entry_sub : entryFor table "re.Pattern.sub" = some Builtin.«re.Pattern.sub» := entryFor_of_fast (by kernel_rfl)
theorem entry_loop : entryFor table "re.Pattern.sub.loop" = some Builtin.«re.Pattern.sub.loop» := entryFor_of_fast (by kernel_rfl)
theorem plain_loop : plainId "re.Pattern.sub.loop" = true := by decide +kernel
/-- what the search and the replacement make of a text, from each place on -/
structure SubSpec (code text : Array Nat) (rp : List Nat) (out : Nat → List Nat) : Prop where
  go : ∀ p, p ≤ text.size → (∃ i e n, p ≤ i ∧ i < e ∧ e ≤ text.size ∧ n ≤ 2 ^ 60 ∧ Hit i e (Sre.M.runFor n (Sre.forSearch code text 0 p text.size false)) ∧ out p = (text.toList.drop p).take (i - p) ++ (rp ++ out e)) ∨
    (∃ n, n ≤ 2 ^ 60 ∧ Mine.Out (Sre.M.runFor n (Sre.forSearch code text 0 p text.size false)) ∧ out p = text.toList.drop p)
def flat (ys : List Str) : List Nat := (ys.map fun y => y.cps.toList).flatten
theorem flat_snoc (ys : List Str) (y : Str) : flat (ys ++ [y]) = flat ys ++ y.cps.toList := by simp [flat]
theorem flat_length (ys : List Str) : (flat ys).length = (ys.map (·.length)).sum := by
  induction ys with
  | nil => rfl
  | cons y r ih =>
    show (y.cps.toList ++ flat r).length = _
    rw [List.length_append, ih]
    simp [Str.length]
theorem join_flat : ∀ ys : List Str, (Txt.join (Str.ofString "") ys).cps.toList = flat ys := by
  have e0 : Str.ofString "" = Str.empty := by decide +kernel
  have key : ∀ ys : List Str, (Str.join Str.empty ys).cps.toList = flat ys := by
    intro ys
    induction ys with
    | nil => rfl
    | cons y r ih =>
      cases r with
      | nil => show y.cps.toList = y.cps.toList ++ []; simp
      | cons z r =>
        show (y ++ Str.empty ++ Str.join Str.empty (z :: r)).cps.toList = y.cps.toList ++ flat (z :: r)
        rw [← ih]
        simp [Str.cps_append, Str.empty]
  intro ys
  show (Builtin.Str.glued _ ys).cps.toList = _
  rw [StrLaws.glued_eq_join, e0, key]
theorem strs_snoc : ∀ {vs : List Value} {ys : List Str} {y : Str} {t : Tok}, StrsAre vs ys → StrsAre (vs ++ [.str y t]) (ys ++ [y])
  | _, _, _, _, .nil => .cons _ _ .nil
  | _, _, _, _, .cons _ _ r => .cons _ _ (strs_snoc r)
theorem ext_take (a : Array Nat) (i j : Nat) : (a.extract i j).toList = (a.toList.drop i).take (j - i) := by simp
section
variable {prog : Program} {w : World} {A : Around} {R : Result → Shared → Prop} {h₀ : Heap} {L P D : Addr} {m : Str → Option Value} {news : List (Addr × Obj)} {code : Array Nat} {x rp : Str} {tx tr : Tok} {out : Nat → List Nat}
theorem push_D {s : Shared} {vs : List Value} {k : Nat} {v : Value} {E : Value → Shared → Prop} {Q : Unit → Shared → Prop} {M : Model} (F : Fr h₀ L s.heap m) (N : News h₀ L s.heap ((D, W.listOf vs.toArray k) :: news)) (hne : ∀ q ∈ news, q.1 ≠ D) (hsz : vs.length ≤ 10000000)
    (h : ∀ h' k', Fr h₀ L h' m → News h₀ L h' ((D, W.listOf (vs ++ [v]).toArray k') :: news) → Q () { s with heap := h' }) : wpAny M A (updateSeq D (·.push v)) Q E s := by
  have z := N _ (List.mem_cons_self ..)
  refine wpAny_updateSeq z.1 rfl (h _ (k + 1) (F.change (Heap.SameBut.update ..) z.2.1 z.2.2) ?_) (by rw [List.size_toArray, sizeLine_eq]; omega) (by simp only [Array.size_push, List.size_toArray]; rw [sizeLine_eq]; omega)
  have := ki_turn (pre := []) (post := news) (its' := (vs ++ [v]).toArray) (n' := k + 1) (fun a => a.push v) N (fun _ hp => nomatch hp) hne (by simp) (by simp)
  simpa using this
theorem slice_mk {s : Shared} {E : Value → Shared → Prop} {Q : Value → Shared → Prop} {M : Model} {text : Array Nat} {b e : Nat} (hsz : text.size ≤ 1000000)
    (h : ∀ t k, Q (.str ⟨text.extract b e⟩ t) { s with toks := k }) : wpAny M A (reSlice text 0 b e) Q E s := by
  show wpAny M A (mkStr ⟨text.extract b e⟩) Q E s
  refine wpAny_mkStr (h _ _) ?_
  show (text.extract b e).size ≤ sizeLine
  rw [Array.size_extract, sizeLine_eq]
  omega
abbrev loopC (P D : Addr) (x rp : Str) (tx tr : Tok) (n p : Int) : Code :=
  .builtin "re.Pattern.sub.loop" ⟨[.ref P, .str x tx, .str rp tr, rawInt 0, rawInt 0, rawInt n, rawInt p, rawInt p, .bool false, .ref D, .bool false], []⟩
theorem sub_loop (hP : PatAt h₀ P code) (spec : SubSpec code x.cps rp.cps.toList out) (hx : x.cps.size ≤ 1000000) (ho : (out 0).length ≤ 1000000) (hne : ∀ q ∈ news, q.1 ≠ D) :
    ∀ (d p : Nat), x.cps.size - p = d → p ≤ x.cps.size → ∀ (s : Shared) (n : Int) (vs : List Value) (ys : List Str) (k : Nat), Fr h₀ L s.heap m → News h₀ L s.heap ((D, W.listOf vs.toArray k) :: news) → StrsAre vs ys → flat ys ++ out p = out 0 → vs.length ≤ 2 * p →
      (∀ t h' k', Fr h₀ L h' m → News h₀ L h' news → R (.ok (.ret (.str ⟨(out 0).toArray⟩ t))) { s with heap := h', toks := k' }) →
      codeAny (model prog w) A (loopC P D x rp tx tr n p) R s := by
  intro d
  induction d using Nat.strongRecOn with
  | ind d ih =>
    intro p hd hp s n vs ys k F N hvs hout hlen hR
    refine codeAny_builtin entry_loop ?_
    rw [Around.under_plainId plain_loop]
    show wpAny (model prog w) A.in1 (reWholeTarget (.ref P) (.str x tx) >>= _) _ _ s
    refine wpAny_bind (wp_target (hP.keeps F.keep) ?_)
    dsimp only
    rw [if_pos (by decide)]
    refine wpAny_bind (wpAny_of_eq (a := ()) rfl ?_)
    rw [if_neg (by simp), Int.toNat_natCast]
    refine wpAny_bind ?_
    show wpAny (model prog w) A.in1 (reRunToEnd (Sre.forSearch code x.cps 0 p x.cps.size false)) _ _ s
    rcases spec.go p hp with ⟨i, e, n', hpi, hie, hes, hn', hit, hop⟩ | ⟨n', hn', hno, hop⟩
    · refine wp_found hit hn' fun r hr1 hr2 => ?_
      dsimp only
      rw [hr1, hr2]
      have hbe : (e == i) = false := beq_eq_false_iff_ne.mpr (by omega)
      rw [hbe]
      have fin : ∀ (h' : Heap) (tk : Nat) (vs' : List Value) (ys' : List Str) (k' : Nat), Fr h₀ L h' m → News h₀ L h' ((D, W.listOf vs'.toArray k') :: news) → StrsAre vs' ys' → flat ys' ++ (rp.cps.toList ++ out e) = out 0 → vs'.length ≤ 2 * p + 1 →
          wpAny (model prog w) A.in1 (updateSeq D fun x => x.push (Value.str rp tr)) (fun _ s₂ => wpAny (model prog w) A.in1 (again (loopC P D x rp tx tr (n + 1) e)) (fun fin s' => match fin with | .done f => R (.ok f) s' | .again c' => c'.quiet = true ∧ codeAny (model prog w) A c' R s') (fun e s' => R (.error e) s') s₂) (fun e s' => R (.error e) s') { s with heap := h', toks := tk } := by
        intro h' tk vs' ys' k' F' N' hv' hf' hl'
        refine push_D (s := { s with heap := h', toks := tk }) F' N' hne (by omega) fun h2 k2 F2 N2 => ?_
        refine wpAny_pure ⟨plainId_quiet plain_loop _, ?_⟩
        refine ih (x.cps.size - e) (by omega) e rfl hes _ (n + 1) (vs' ++ [.str rp tr]) (ys' ++ [rp]) k2 F2 N2 (strs_snoc hv') ?_ ?_ ?_
        · rw [flat_snoc, List.append_assoc]; exact hf'
        · simp only [List.length_append, List.length_cons, List.length_nil]; omega
        · exact fun t h3 k3 F3 N3 => hR t h3 k3 F3 N3
      by_cases hlt : p < i
      · rw [if_pos hlt]
        refine wpAny_bind (slice_mk (s := s) hx fun t1 k1 => ?_)
        refine wpAny_bind (push_D (s := { s with toks := k1 }) F N hne (by omega) fun h2 k2 F2 N2 => ?_)
        rw [if_pos (by decide)]
        refine wpAny_bind (wpAny_pure ?_)
        rw [if_pos (by rfl)]
        refine wpAny_bind (fin h2 k1 _ (ys ++ [⟨x.cps.extract p i⟩]) k2 F2 N2 (strs_snoc hvs) ?_ ?_)
        · rw [flat_snoc, ext_take, List.append_assoc, ← hop]; exact hout
        · simp only [List.length_append, List.length_cons, List.length_nil]; omega
      · rw [if_neg hlt]
        rw [if_pos (by decide)]
        refine wpAny_bind (wpAny_pure ?_)
        rw [if_pos (by rfl)]
        refine wpAny_bind (fin s.heap s.toks _ ys k F N hvs ?_ (by omega))
        have : i - p = 0 := by omega
        rw [this, List.take_zero, List.nil_append] at hop
        rw [← hop]; exact hout
    · refine wp_notFound hno hn' ?_
      dsimp only
      have e0 : (⟨x.cps.extract 0 0⟩ : Str) = Str.ofString "" := by
        have : Str.ofString "" = ⟨#[]⟩ := by decide +kernel
        rw [this]
        exact Str.ext' (by simp)
      have fin : ∀ (h' : Heap) (tk : Nat) (vs' : List Value) (ys' : List Str) (k' : Nat), Fr h₀ L h' m → News h₀ L h' ((D, W.listOf vs'.toArray k') :: news) → StrsAre vs' ys' → flat ys' = out 0 → vs'.length ≤ 3000000 →
          wpAny (model prog w) A.in1 (reSlice x.cps 0 0 0) (fun joiner s₂ => wpAny (model prog w) A.in1 (do
            let __do_lift ← seqItems? (Value.ref D)
            if (__do_lift.getD #[]).isEmpty = true then do
              let text ← pure joiner
              ret text
            else do
              let text ← call (Value.builtin "str.join") [joiner, Value.ref D]
              ret text) (fun fin s' => match fin with | .done f => R (.ok f) s' | .again c' => c'.quiet = true ∧ codeAny (model prog w) A c' R s') (fun e s' => R (.error e) s') s₂) (fun e s' => R (.error e) s') { s with heap := h', toks := tk } := by
        intro h' tk vs' ys' k' F' N' hv' hf' hl'
        refine slice_mk (s := { s with heap := h', toks := tk }) hx fun t1 k1 => ?_
        rw [e0]
        have z := N' _ (List.mem_cons_self ..)
        refine wpAny_bind (wpAny_seqItems z.1 rfl ?_)
        by_cases hemp : ((some vs'.toArray).getD #[]).isEmpty = true
        · rw [if_pos hemp]
          refine wpAny_bind (wpAny_pure (wpAny_pure ?_))
          have hv0 : vs' = [] := by simpa using hemp
          subst hv0
          cases hv'
          have e1 : Str.ofString "" = ⟨(out 0).toArray⟩ := by
            rw [← hf']
            decide +kernel
          rw [e1]
          exact hR _ _ _ F' (fun q hq => N' q (List.mem_cons_of_mem _ hq))
        · rw [if_neg hemp]
          refine wpAny_bind (join_list (ys := ys') ⟨_, z.1, rfl, k', rfl⟩ hv' ?_ fun t2 k2 => wpAny_pure ?_)
          · rw [← flat_length, hf']
            have : (Str.ofString "").length = 0 := by decide +kernel
            rw [this]; omega
          · have e1 : Txt.join (Str.ofString "") ys' = ⟨(out 0).toArray⟩ := Str.ext' (by rw [← hf', ← join_flat])
            rw [e1]
            exact hR _ _ _ F' (fun q hq => N' q (List.mem_cons_of_mem _ hq))
      by_cases hlt : p < x.cps.size
      · rw [if_pos hlt]
        refine wpAny_bind (slice_mk (s := s) hx fun t1 k1 => ?_)
        refine wpAny_bind (push_D (s := { s with toks := k1 }) F N hne (by omega) fun h2 k2 F2 N2 => ?_)
        refine wpAny_bind (fin h2 k1 _ (ys ++ [⟨x.cps.extract p x.cps.size⟩]) k2 F2 N2 (strs_snoc hvs) ?_ ?_)
        · rw [flat_snoc, ext_take, List.take_of_length_le (by simp), ← hop]; exact hout
        · simp only [List.length_append, List.length_cons, List.length_nil]; omega
      · rw [if_neg hlt]
        refine wpAny_bind (fin s.heap s.toks _ ys k F N hvs ?_ (by omega))
        rw [List.drop_of_length_le (by simp; omega)] at hop
        rw [hop, List.append_nil] at hout
        exact hout
end
end Mine
end
section
open PySem PySem.W PyProof.Rows
namespace Mine
open PySem.Sre PySem.Builtin PySem.Builtin.Re
theorem slot_sub : Slot "re.Pattern" "sub" "re.Pattern.sub" :=
  .of (owner := "re.Pattern") (n := "sub") (by rw [typeLookup_type, builtinLookup_eq_fast]; kernel_rfl) (by decide +kernel) (by decide +kernel) (by decide +kernel)
    (by first | exact .inl (by decide +kernel) | exact .inr (by decide +kernel)) (by rw [isSubtype_type]; kernel_rfl)
theorem args_sub (a b c : Value) : argsOk "re.Pattern.sub" ⟨[a, b, c], []⟩ := by unfold argsOk; kernel_rfl
theorem str_no_call : typeLookup (.type "str") "__call__" = pure none := by rw [typeLookup_type, builtinLookup_eq_fast]; kernel_rfl
section
variable {prog : Program} {w : World} {A : Around} {E : Value → Shared → Prop} {s : Shared} {h₀ : Heap} {L P : Addr} {m : Str → Option Value} {news : List (Addr × Obj)} {code : Array Nat} {x rp : Str} {tx tr : Tok} {out : Nat → List Nat} {Q : Value → Shared → Prop}
theorem sub_call (hP : PatAt h₀ P code) (spec : SubSpec code x.cps rp.cps.toList out) (hx : x.cps.size ≤ 1000000) (ho : (out 0).length ≤ 1000000) (hrp : rp.cps.contains 92 = false)
    (F : Fr h₀ L s.heap m) (N : News h₀ L s.heap news)
    (h : ∀ t h' k', Fr h₀ L h' m → News h₀ L h' news → Q (.str ⟨(out 0).toArray⟩ t) { s with heap := h', toks := k' }) :
    wpAny (model prog w) A (call (.builtin "re.Pattern.sub") [.ref P, .str rp tr, .str x tx]) Q E s := by
  have hP' := hP.keeps F.keep
  obtain ⟨fs, T, ws, n, oT, o, h1, h2, h3, _⟩ := id hP'
  have hT : s.TypeIs (.ref P) "re.Pattern" := ⟨o, h1, h3⟩
  refine wpAny_call (codeAny_call_builtin slot_sub.plain entry_sub (slot_sub.check _ _ _ _ _ _ _ _ hT (args_sub _ _ _) ?_))
  show wpAny _ _ (reSubstitute "re.Pattern.sub" "sub" false ⟨[.ref P, .str rp tr, .str x tx], []⟩) _ _ s
  unfold reSubstitute
  refine wpAny_bind (wpAny_of_eq (a := [some (.str rp tr), some (.str x tx), none]) (by rfl) ?_)
  dsimp only
  refine wpAny_bind (wpAny_pure ?_)
  refine wpAny_bind (wpAny_specialOf (typeIs_str _ _ _) str_no_call ?_)
  rw [if_neg (by decide)]
  refine wpAny_bind (wpAny_of_eq (a := some rp) rfl ?_)
  dsimp only
  refine wpAny_bind (wpAny_pure ?_)
  rw [if_neg (by decide), if_pos (by rw [hrp]; rfl)]
  refine wpAny_bind (wpAny_pure ?_)
  refine wpAny_bind (wpAny_holding (wp_target hP' ?_))
  rw [if_neg (by show ¬ ((0 : Int) == 1) = true; decide)]
  refine wpAny_bind (newList_K F N (fun D h' F' N' hlt => ?_) (by simp))
  refine wpAny_pure ⟨plainId_quiet plain_loop _, ?_⟩
  refine sub_loop hP spec hx ho (fun q hq => Nat.ne_of_lt (hlt q hq)) x.cps.size 0 (by simp) (Nat.zero_le _) _ 0 [] [] 0 F' N' .nil rfl (by simp) ?_
  exact fun t h2 k2 F2 N2 => h t h2 k2 F2 N2
end
end Mine
end
section
open PySem PySem.W PyProof.Rows
namespace Mine
open PySem.Sre
/-- every end as return and feed -/
def fixE : List Nat → List Nat
  | [] => []
  | [c] => if c = 10 ∨ c = 13 then [13, 10] else [c]
  | c :: d :: r => if c = 13 ∧ d = 10 then 13 :: 10 :: fixE r else if c = 10 ∨ c = 13 then 13 :: 10 :: fixE (d :: r) else c :: fixE (d :: r)
/-- a dot that opens a line twice -/
def stuff : Bool → List Nat → List Nat
  | _, [] => []
  | b, c :: r => if b = true ∧ c = 46 then 46 :: 46 :: stuff false r else c :: stuff (c == 10) r
theorem fixE_plain {c : Nat} (h1 : c ≠ 10) (h2 : c ≠ 13) (r : List Nat) : fixE (c :: r) = c :: fixE r := by
  cases r with
  | nil => simp [fixE, h1, h2]
  | cons d r => simp [fixE, h1, h2]
theorem fixE_ten (r : List Nat) : fixE (10 :: r) = 13 :: 10 :: fixE r := by
  cases r with
  | nil => simp [fixE]
  | cons d r => simp [fixE]
theorem fixE_both (r : List Nat) : fixE (13 :: 10 :: r) = 13 :: 10 :: fixE r := by simp [fixE]
theorem fixE_ret {r : List Nat} (h : ∀ d r', r = d :: r' → d ≠ 10) : fixE (13 :: r) = 13 :: 10 :: fixE r := by
  cases r with
  | nil => simp [fixE]
  | cons d r => simp [fixE, h d r rfl]
theorem fixE_length : ∀ l : List Nat, (fixE l).length ≤ 2 * l.length
  | [] => by simp [fixE]
  | [c] => by unfold fixE; split <;> simp
  | c :: d :: r => by
    unfold fixE
    split
    · have := fixE_length r
      simp only [List.length_cons]; omega
    · split
      · have := fixE_length (d :: r)
        simp only [List.length_cons] at this ⊢; omega
      · have := fixE_length (d :: r)
        simp only [List.length_cons] at this ⊢; omega
theorem stuff_length : ∀ (l : List Nat) (b : Bool), (stuff b l).length ≤ 2 * l.length
  | [], _ => by simp [stuff]
  | c :: r, b => by
    unfold stuff
    split
    · have := stuff_length r false
      simp only [List.length_cons]; omega
    · have := stuff_length r (c == 10)
      simp only [List.length_cons]; omega
section
variable (text : Array Nat)
theorem getD_at {i : Nat} (h : i < text.size) : text.getD i 0 = text[i] := by simp [Array.getD, h]
theorem drop_at {i : Nat} (h : i < text.size) : text.toList.drop i = text.getD i 0 :: text.toList.drop (i + 1) := by
  rw [getD_at text h, List.drop_eq_getElem_cons (by simpa using h)]
  simp
theorem fixE_run : ∀ (d p i : Nat), i - p = d → p ≤ i → i ≤ text.size → (∀ j, p ≤ j → j < i → isEnd text j = false) → fixE (text.toList.drop p) = (text.toList.drop p).take (i - p) ++ fixE (text.toList.drop i) := by
  intro d
  induction d with
  | zero =>
    intro p i hd hpi hi _
    have : i = p := by omega
    subst this
    simp
  | succ d ih =>
    intro p i hd hpi hi hno
    have hp : p < text.size := by omega
    have h0 := hno p (Nat.le_refl _) (by omega)
    simp only [isEnd, hp, decide_true, Bool.true_and, Bool.or_eq_false_iff, beq_eq_false_iff_ne] at h0
    rw [drop_at text hp, fixE_plain h0.1 h0.2, ih (p + 1) i (by omega) (by omega) hi fun j a b => hno j (by omega) b, show i - p = (i - (p + 1)) + 1 from by omega, List.take_succ_cons]
    rfl
theorem fixE_hit {i : Nat} (h : isEnd text i = true) : fixE (text.toList.drop i) = [13, 10] ++ fixE (text.toList.drop (endOf text i)) := by
  simp only [isEnd, Bool.and_eq_true, decide_eq_true_eq, Bool.or_eq_true, beq_iff_eq] at h
  obtain ⟨hs, h | h⟩ := h
  · rw [endOf, if_neg (by omega), drop_at text hs, h, fixE_ten]; rfl
  · by_cases hn : i + 1 < text.size ∧ text.getD (i + 1) 0 = 10
    · rw [endOf, if_pos ⟨h, hn⟩, drop_at text hs, h, drop_at text hn.1, hn.2, fixE_both]; rfl
    · rw [endOf, if_neg (fun q => hn q.2), drop_at text hs, h, fixE_ret]
      · rfl
      · intro d r' e hd
        by_cases h1 : i + 1 < text.size
        · rw [drop_at text h1] at e
          injection e with e1 _
          exact hn ⟨h1, by rw [e1]; exact hd⟩
        · rw [List.drop_of_length_le (by simp; omega)] at e
          cases e
theorem endOf_le {i : Nat} (h : isEnd text i = true) : i < endOf text i ∧ endOf text i ≤ text.size := by
  simp only [isEnd, Bool.and_eq_true, decide_eq_true_eq] at h
  unfold endOf
  split <;> omega
theorem spec2 : SubSpec code2 text [13, 10] (fun p => fixE (text.toList.drop p)) where
  go := by
    intro p hp
    rcases forSearch2 text p with ⟨i, n, hpi, he, hno, hn, hh⟩ | ⟨hno, n, hn, hh⟩
    · have hi : i < text.size := by
        simp only [isEnd, Bool.and_eq_true, decide_eq_true_eq] at he
        exact he.1
      refine .inl ⟨i, endOf text i, n, hpi, (endOf_le text he).1, (endOf_le text he).2, by omega, hh, ?_⟩
      rw [fixE_run text _ p i rfl hpi (by omega) hno, fixE_hit text he]
    · refine .inr ⟨n, by omega, hh, ?_⟩
      have := fixE_run text _ p text.size rfl hp (Nat.le_refl _) fun j a _ => hno j a
      rw [this, List.take_of_length_le (by simp), show text.toList.drop text.size = [] from by simp]
      simp [fixE]
/-- a line opens at p -/
def flag (p : Nat) : Bool := p == 0 || text.getD (p - 1) 0 == 10
theorem flag_succ (p : Nat) : flag text (p + 1) = (text.getD p 0 == 10) := by simp [flag]
theorem stuff_run : ∀ (d p i : Nat), i - p = d → p ≤ i → i ≤ text.size → (∀ j, p ≤ j → j < i → lineDot text j = false) → stuff (flag text p) (text.toList.drop p) = (text.toList.drop p).take (i - p) ++ stuff (flag text i) (text.toList.drop i) := by
  intro d
  induction d with
  | zero =>
    intro p i hd hpi hi _
    have : i = p := by omega
    subst this
    simp
  | succ d ih =>
    intro p i hd hpi hi hno
    have hp : p < text.size := by omega
    have h0 := hno p (Nat.le_refl _) (by omega)
    have h1 : ¬ (flag text p = true ∧ text.getD p 0 = 46) := by
      rintro ⟨a, b⟩
      have : lineDot text p = true := by
        show (flag text p && (decide (p < text.size) && text.getD p 0 == 46)) = true
        rw [a, b, decide_eq_true hp]; rfl
      rw [this] at h0
      cases h0
    rw [drop_at text hp]
    show (if _ then _ else _) = _
    rw [if_neg h1, ← flag_succ, ih (p + 1) i (by omega) (by omega) hi fun j a b => hno j (by omega) b, show i - p = (i - (p + 1)) + 1 from by omega, List.take_succ_cons]
    rfl
theorem stuff_hit {i : Nat} (h : lineDot text i = true) : stuff (flag text i) (text.toList.drop i) = [46, 46] ++ stuff (flag text (i + 1)) (text.toList.drop (i + 1)) := by
  have h' : (flag text i && (decide (i < text.size) && text.getD i 0 == 46)) = true := h
  simp only [Bool.and_eq_true, decide_eq_true_eq, beq_iff_eq] at h'
  obtain ⟨h1, h2, h3⟩ := h'
  rw [drop_at text h2, flag_succ, h3, h1]
  rfl
theorem spec1 (hsz : text.size ≤ 1000000) : SubSpec code1 text [46, 46] (fun p => stuff (flag text p) (text.toList.drop p)) where
  go := by
    intro p hp
    by_cases hps : p < text.size
    · rw [forSearch1 text p hps]
      rcases search1 text _ p true _ rfl hp with ⟨i, n, hpi, hl, hno, hn, hh⟩ | ⟨hno, n, hn, hh⟩
      · have hi := lineDot_lt hl
        refine .inl ⟨i, i + 1, n, hpi, by omega, hi, by omega, hh, ?_⟩
        rw [stuff_run text _ p i rfl hpi (by omega) hno, stuff_hit text hl]
      · refine .inr ⟨n, by omega, hh, ?_⟩
        have := stuff_run text _ p text.size rfl hp (Nat.le_refl _) fun j a _ => hno j a
        rw [this, List.take_of_length_le (by simp), show text.toList.drop text.size = [] from by simp]
        simp [stuff]
    · obtain ⟨n, hn, hh⟩ := forSearch1_end text p (by omega)
      refine .inr ⟨n, by omega, hh, ?_⟩
      rw [List.drop_of_length_le (by simp; omega)]
      rfl
end
def quoteL (l : List Nat) : List Nat := stuff true (fixE l)
end Mine
end
section
open PySem PySem.W PyProof.Rows
namespace Mine
theorem plainAttrs_pat : PlainAttrs "re.Pattern" :=
  ⟨⟨"object.__getattribute__", by rw [typeLookup_type, builtinLookup_eq_fast]; kernel_rfl, by decide +kernel⟩, by rw [typeLookup_type, builtinLookup_eq_fast]; kernel_rfl⟩
theorem type_sub : typeOf (.builtin "re.Pattern.sub") = pure (.type "method_descriptor") := by show builtinType _ = _; rw [builtinType_eq_fast]; kernel_rfl
theorem get_sub {M : Model} {A : Around} {E : Value → Shared → Prop} {s : Shared} {P : Addr} {o : Obj} {pl : Sem Bool} {Q : Value × List Value → Shared → Prop} (ho : s.heap.get? P = some o) (hc : o.cls = .type "re.Pattern") (hd : o.dict = none)
    (h : Q (.builtin "re.Pattern.sub", [.ref P]) s) : wpAny M A (getMethod (.ref P) (Str.ofString "sub") pl) Q E s :=
  getMethod_builtin ⟨o, ho, hc⟩ plainAttrs_pat slot_sub type_sub (fun a e => by cases e; exact ⟨o, ho, hd⟩) h
theorem pat1 {w : World} {h : Heap} (H : (hd.heap_39 w.params).In h) : PatAt h 36 code1 :=
  ⟨_, _, _, _, _, _, H 36 _ rfl, rfl, rfl, rfl, rfl, rfl, H _ _ rfl, rfl, by decide +kernel⟩
theorem pat2 {w : World} {h : Heap} (H : (hd.heap_39 w.params).In h) : PatAt h 41 code2 :=
  ⟨_, _, _, _, _, _, H 41 _ rfl, rfl, rfl, rfl, rfl, rfl, H _ _ rfl, rfl, by decide +kernel⟩
def fixF (x : Str) : Str := ⟨(fixE x.cps.toList).toArray⟩
def quoteF (x : Str) : Str := ⟨(quoteL x.cps.toList).toArray⟩
section
variable {prog : Program} {w : World} {A : Around} {E : Value → Shared → Prop} {s : Shared} {h₀ : Heap} {L : Addr} {m : Str → Option Value} {news : List (Addr × Obj)} {x : Str} {tx tr : Tok} {Q : Value → Shared → Prop}
theorem sub2 (H : (hd.heap_39 w.params).In h₀) (hx : x.length ≤ 10000) (F : Fr h₀ L s.heap m) (N : News h₀ L s.heap news)
    (h : ∀ t h' k' (y : Str), y = fixF x → y.length ≤ 2 * x.length → Fr h₀ L h' m → News h₀ L h' news → Q (.str y t) { s with heap := h', toks := k' }) :
    wpAny (model prog w) A (call (.builtin "re.Pattern.sub") [.ref 41, .str (Str.ofString "\x0d\n") tr, .str x tx]) Q E s := by
  have e : (Str.ofString "\x0d\n").cps.toList = [13, 10] := by decide +kernel
  have hl : x.cps.size = x.length := rfl
  have h2 := fixE_length x.cps.toList
  have hl' : x.cps.toList.length = x.length := by simp [Str.length]
  refine sub_call (pat2 H) (by rw [e]; exact spec2 x.cps) (by omega) (by rw [List.drop_zero]; omega) (by decide +kernel) F N ?_
  intro t h' k' F' N'
  refine h t h' k' _ ?_ ?_ F' N'
  · rw [List.drop_zero]; rfl
  · show ((fixE (x.cps.toList.drop 0)).toArray).size ≤ _
    rw [List.drop_zero, List.size_toArray]; omega
theorem sub1 (H : (hd.heap_39 w.params).In h₀) (hx : x.length ≤ 10000) (F : Fr h₀ L s.heap m) (N : News h₀ L s.heap news)
    (h : ∀ t h' k', Fr h₀ L h' m → News h₀ L h' news → Q (.str ⟨(stuff true x.cps.toList).toArray⟩ t) { s with heap := h', toks := k' }) :
    wpAny (model prog w) A (call (.builtin "re.Pattern.sub") [.ref 36, .str (Str.ofString "..") tr, .str x tx]) Q E s := by
  have e : (Str.ofString "..").cps.toList = [46, 46] := by decide +kernel
  have hl : x.cps.size = x.length := rfl
  have h2 := stuff_length x.cps.toList true
  have hl' : x.cps.toList.length = x.length := by simp [Str.length]
  refine sub_call (pat1 H) (by rw [e]; exact spec1 x.cps (by omega)) (by omega) (by rw [List.drop_zero]; show (stuff true _).length ≤ _; omega) (by decide +kernel) F N ?_
  intro t h' k' F' N'
  have := h t h' k' F' N'
  rw [List.drop_zero]
  exact this
end
local macro_rules | `(tactic| walk_at "getMethod ref") => `(tactic| (k_here; (with_reducible show wpAny _ _ (getMethod (Value.ref 36) _ _) _ _ _); with_unfolding_all (refine get_sub ((Frag.In.keeps (by assumption) (Fr.keep (by k_asm))) 36 _ rfl) rfl rfl ?_)))
local macro_rules | `(tactic| walk_at "getMethod ref") => `(tactic| (k_here; (with_reducible show wpAny _ _ (getMethod (Value.ref 41) _ _) _ _ _); with_unfolding_all (refine get_sub ((Frag.In.keeps (by assumption) (Fr.keep (by k_asm))) 41 _ rfl) rfl rfl ?_)))
local macro_rules | `(tactic| walk_at "call builtin:re.Pattern.sub") => `(tactic| (k_here; (first | (refine sub2 (by assumption) (by omega) (by k_asm) (by k_asm) ?_; intro t' h' k' y' ey' hy' F' N'; (try dsimp only)) | (refine sub1 (by assumption) (by omega) (by k_asm) (by k_asm) ?_; intro t' h' k' F' N'; (try dsimp only)))))
set_option maxRecDepth 100000 in
set_option maxHeartbeats 8000000 in
theorem quote_c {w : World} {mean : ExcName → Option Value} {mg mb : Str → Option Value} {news : List (Addr × Obj)} (x : Str) (tx : Tok) (hx : x.length ≤ 1000) :
   ClV Challenge.rw_pg0024_01.row.prog w (hd.heap_39 w.params) hd.view_39 (looseW hd.view_39 [Str.ofString "_twin_re_1", Str.ofString "_twin_re_2"]) mean mg mb 48 news [.str x tx] (fun t => .str (quoteF x) t) := by
  w_top off
  k_fill
  dsimp only [ClV, CbRet]; intros; rename_i hret
  k_steps
  refine cb_retS hret ?_ (by assumption) (by assumption)
  subst_vars
  rfl
end Mine
end
section
open PySem PySem.W PyProof.Rows
namespace Mine
def sign (n : Int) : Str :=
  if n.fmod 5 = 0 then Str.ofString "." else if n.fmod 5 = 1 then Str.ofString "\x0d" else if n.fmod 5 = 2 then Str.ofString "\n" else if n.fmod 5 = 3 then Str.ofString "\x0d\n"
  else if (n.fdiv 5).fmod 55000 = 10 ∨ (n.fdiv 5).fmod 55000 = 13 ∨ (n.fdiv 5).fmod 55000 = 46 then Str.ofString "b" else ⟨#[((n.fdiv 5).fmod 55000).toNat]⟩
theorem sign_len (n : Int) : (sign n).length ≤ 2 := by
  have h1 : (Str.ofString ".").length ≤ 2 := by decide +kernel
  have h2 : (Str.ofString "\x0d").length ≤ 2 := by decide +kernel
  have h3 : (Str.ofString "\n").length ≤ 2 := by decide +kernel
  have h4 : (Str.ofString "\x0d\n").length ≤ 2 := by decide +kernel
  have h5 : (Str.ofString "b").length ≤ 2 := by decide +kernel
  unfold sign
  split
  · exact h1
  split
  · exact h2
  split
  · exact h3
  split
  · exact h4
  split
  · exact h5
  · show (#[_] : Array Nat).size ≤ 2; simp
def signsT (l : List Int) : Str := Txt.join (Str.ofString "") (l.map sign)
theorem signsT_list (l : List Int) : (signsT l).cps.toList = (l.map fun n => (sign n).cps.toList).flatten := by
  unfold signsT
  rw [join_flat]
  simp [flat, List.map_map, Function.comp_def]
theorem signsT_len : ∀ l : List Int, (signsT l).length ≤ 2 * l.length := by
  intro l
  have e : (signsT l).length = ((l.map fun n => (sign n).cps.toList).flatten).length := by
    rw [← signsT_list]; simp [Str.length]
  rw [e]
  induction l with
  | nil => simp
  | cons n r ih =>
    have := sign_len n
    have e2 : (sign n).cps.toList.length = (sign n).length := by simp [Str.length]
    have ih' : ((r.map fun n => (sign n).cps.toList).flatten).length ≤ 2 * r.length := by
      refine ih ?_
      rw [← signsT_list]; simp [Str.length]
    simp only [List.map_cons, List.flatten_cons, List.length_append, List.length_cons]
    omega
theorem my_join {prog : Program} {w : World} {A : Around} {E : Value → Shared → Prop} {s : Shared} {t : Tok} {Q : Value → Shared → Prop} {D : Addr} {ys : List Value} {l : List Int} (hl : s.heap.IsList D ys.toArray)
    (hc : CarriedAll ys (l.map fun k => PyData.str (sign k))) (hn : l.length ≤ 5) (h : ∀ t' k (r : Str), r = signsT l → r.length ≤ 10 → Q (.str r t') { s with toks := k }) :
    wpAny (model prog w) A (call (.builtin "str.join") [.str (Str.ofString "") t, .ref D]) Q E s := by
  refine KT.join_B 2 hl hc (fun a _ => sign_len a) (by omega) (by decide +kernel) fun t' k => h t' k _ rfl ?_
  have := signsT_len l
  have e : (signsT l).length = (Txt.join (Str.ofString "") (l.map sign)).length := rfl
  omega
end Mine
end
section
open PySem PySem.W PyProof.Rows
namespace Mine
def toksR : List Int → List Bool
  | [] => []
  | k :: r => true :: (List.replicate k.toNat false ++ toksR r)
def toksOf : List Int → List Bool
  | [] => []
  | k :: r => List.replicate k.toNat false ++ toksR r
def textF (l : List Int) : Str := signsT l ++ Str.ofString ".\n."
def sentF (l : List Int) : Int → Str
  | 1 => quoteF (textF l)
  | _ => quoteF (quoteF (textF l))
theorem quoteF_len (x : Str) : (quoteF x).length ≤ 4 * x.length := by
  have h1 := stuff_length (fixE x.cps.toList) true
  have h2 := fixE_length x.cps.toList
  have e1 : (quoteF x).length = (stuff true (fixE x.cps.toList)).length := by
    show ((stuff true (fixE x.cps.toList)).toArray).size = _
    simp
  have e2 : x.cps.toList.length = x.length := by simp [Str.length]
  omega
end Mine
end
section
open PySem PySem.W PyProof.Rows
namespace Mine
section
variable {w : World} {mean : ExcName → Option Value} {mg mb : Str → Option Value} {news : List (Addr × Obj)} {cn : Str} {nm : List (Str × NameKind)} {ig ic : Bool} {mo : List (Str × Const)} {a : Addr} {ccd : Value} {base h₀ : Heap} {L : Addr} {m : Str → Option Value} {s : Shared} {Q E : Value → Shared → Prop}
theorem quote_k {x : Str} {tx : Tok} (hx : x.length ≤ 1000) (k1 : Below callerA base [] h₀) (k2 : Fr h₀ L s.heap m) (k3 : (hd.heap_39 w.params).In h₀) (k4 : News h₀ L s.heap news) (k5 : Top hd.view_39 (looseW hd.view_39 [Str.ofString "_twin_re_1", Str.ofString "_twin_re_2"]) mean mg mb h₀)
    (h : ∀ t h' k' (y : Str), y = quoteF x → y.length ≤ 4 * x.length → Fr h₀ L h' m → News h₀ L h' news → Q (.str y t) { s with heap := h', toks := k' }) :
    wpAny (model Challenge.rw_pg0024_01.row.prog w) (callerA.deeper (envOf cn { kind := .function, names := nm, isGenerator := ig, isCoroutine := ic, more := mo } L a ccd)) (call (.ref 48) [.str x tx]) Q E s :=
  quote_c x tx hx cn nm ig ic mo a ccd base h₀ L m s Q E k1 k2 k3 k4 k5 fun t h' k' F' N' => h t h' k' _ rfl (quoteF_len x) F' N'
theorem table_k {x : Str} {tx : Tok} (ks : List Int) (e : rowsT x = ks) (em : tabs 0 (1, 0, 0, 1) ks = mat (toksOf ks)) (hx : x.length ≤ 1000) (k1 : Below callerA base [] h₀) (k2 : Fr h₀ L s.heap m) (k3 : (hd.heap_39 w.params).In h₀) (k4 : News h₀ L s.heap news) (k5 : Top hd.view_39 (looseW hd.view_39 [Str.ofString "_twin_re_1", Str.ofString "_twin_re_2"]) mean mg mb h₀)
    (h : ∀ D ta tb tc td n h' k', Fr h₀ L h' m → News h₀ L h' ((D, W.listOf #[.int (mat (toksOf ks)).1 ta, .int (mat (toksOf ks)).2.1 tb, .int (mat (toksOf ks)).2.2.1 tc, .int (mat (toksOf ks)).2.2.2 td] n) :: news) → Q (.ref D) { s with heap := h', toks := k' }) :
    wpAny (model Challenge.rw_pg0024_01.row.prog w) (callerA.deeper (envOf cn { kind := .function, names := nm, isGenerator := ig, isCoroutine := ic, more := mo } L a ccd)) (call (.ref 104) [.str x tx]) Q E s := by
  refine table_c x tx hx cn nm ig ic mo a ccd base h₀ L m s Q E k1 k2 k3 k4 k5 trivial fun D ys n h' k' hI F' N' => ?_
  unfold tableF at hI
  rw [e, em] at hI
  cases hI with
  | cons _ ta r =>
    cases r with
    | cons _ tb r =>
      cases r with
      | cons _ tc r =>
        cases r with
        | cons _ td r =>
          cases r
          exact h D ta tb tc td n h' k' F' N'
theorem told_k {x : Str} {tx : Tok} {n : Int} {tn : Tok} (hx : x.length ≤ 100) (k1 : Below callerA base [] h₀) (k2 : Fr h₀ L s.heap m) (k3 : (hd.heap_39 w.params).In h₀) (k4 : News h₀ L s.heap news) (k5 : Top hd.view_39 (looseW hd.view_39 [Str.ofString "_twin_re_1", Str.ofString "_twin_re_2"]) mean mg mb h₀)
    (h : ∀ D ys n' h' k' ks, ks = toldF x n → IntsAre ys ks → Fr h₀ L h' m → News h₀ L h' ((D, W.listOf ys.toArray n') :: news) → Q (.ref D) { s with heap := h', toks := k' }) :
    wpAny (model Challenge.rw_pg0024_01.row.prog w) (callerA.deeper (envOf cn { kind := .function, names := nm, isGenerator := ig, isCoroutine := ic, more := mo } L a ccd)) (call (.ref 125) [.str x tx, .int n tn]) Q E s :=
  told_c x tx n tn hx cn nm ig ic mo a ccd base h₀ L m s Q E k1 k2 k3 k4 k5 trivial fun D ys n' h' k' hI F' N' => h D ys n' h' k' _ rfl hI F' N'
theorem rests_k {c d : Int} {tc td : Tok} (hc0 : 0 < c) (hc1 : c < 1099511627776) (hd0 : 0 ≤ d) (hd1 : d < 1099511627776) (k1 : Below callerA base [] h₀) (k2 : Fr h₀ L s.heap m) (k3 : (hd.heap_39 w.params).In h₀) (k4 : News h₀ L s.heap news) (k5 : Top hd.view_39 (looseW hd.view_39 [Str.ofString "_twin_re_1", Str.ofString "_twin_re_2"]) mean mg mb h₀)
    (h : ∀ t h' k', Fr h₀ L h' m → News h₀ L h' news → Q (.int (restsF c d) t) { s with heap := h', toks := k' }) :
    wpAny (model Challenge.rw_pg0024_01.row.prog w) (callerA.deeper (envOf cn { kind := .function, names := nm, isGenerator := ig, isCoroutine := ic, more := mo } L a ccd)) (call (.ref 118) [.int c tc, .int d td]) Q E s :=
  rests_c c d tc td hc0 hc1 hd0 hd1 cn nm ig ic mo a ccd base h₀ L m s Q E k1 k2 k3 k4 k5 h
theorem back_k {toks : List Bool} (ht : toks.length ≤ 1000) {D : Addr} {ta tb tc td : Tok} {nD : Nat} (k1 : Below callerA base [] h₀) (k2 : Fr h₀ L s.heap m) (k3 : (hd.heap_39 w.params).In h₀)
    (k4 : News h₀ L s.heap ((D, W.listOf #[.int (mat toks).1 ta, .int (mat toks).2.1 tb, .int (mat toks).2.2.1 tc, .int (mat toks).2.2.2 td] nD) :: news)) (k5 : Top hd.view_39 (looseW hd.view_39 [Str.ofString "_twin_re_1", Str.ofString "_twin_re_2"]) mean mg mb h₀)
    (h : ∀ D' ys n' h' k', IntsAre ys (fin [0] toks) → Fr h₀ L h' m → News h₀ L h' ((D', W.listOf ys.toArray n') :: (D, W.listOf #[.int (mat toks).1 ta, .int (mat toks).2.1 tb, .int (mat toks).2.2.1 tc, .int (mat toks).2.2.2 td] nD) :: news) → Q (.ref D') { s with heap := h', toks := k' }) :
    wpAny (model Challenge.rw_pg0024_01.row.prog w) (callerA.deeper (envOf cn { kind := .function, names := nm, isGenerator := ig, isCoroutine := ic, more := mo } L a ccd)) (call (.ref 111) [.ref D]) Q E s :=
  back_c toks ht D ta tb tc td nD cn nm ig ic mo a ccd base h₀ L m s Q E k1 k2 k3 k4 k5 trivial h
end
theorem fmod2 (S : Int) : 1 + S.fmod 2 = 1 ∨ 1 + S.fmod 2 = 2 := by
  rw [Int.fmod_eq_emod_of_nonneg _ (by decide)]
  omega
structure Goodness (l : List Int) (T : Int) (ks : List Int) : Prop where
  rows : rowsT (sentF l T) = ks
  tab : tabs 0 (1, 0, 0, 1) ks = mat (toksOf ks)
  len : (toksOf ks).length ≤ 1000
  c0 : 0 < (mat (toksOf ks)).2.2.1
  c1 : (mat (toksOf ks)).2.2.1 < 1099511627776
  d0 : 0 ≤ (mat (toksOf ks)).2.2.2
  d1 : (mat (toksOf ks)).2.2.2 < 1099511627776
  klen : ks.length ≤ 1000
  s0 : 0 ≤ ks.sum
  s1 : ks.sum ≤ 1000
  dede : (mat (toksOf ks)).2.2.1 * (mat (toksOf ks)).2.2.1 * ((ks.length : Int) - 1 - ks.sum + 3) = (mat (toksOf ks)).2.2.1 * ((mat (toksOf ks)).1 + (mat (toksOf ks)).2.2.2) - 3 * restsF (mat (toksOf ks)).2.2.1 (mat (toksOf ks)).2.2.2
  back : fin [0] (toksOf ks) = ks
end Mine
end
section
namespace Mine
/-- the sum of f over 0 .. n - 1 -/
def S : Nat → (Nat → Int) → Int
  | 0, _ => 0
  | n + 1, f => S n f + f n
theorem S_congr {f g : Nat → Int} : ∀ {n : Nat}, (∀ r, r < n → f r = g r) → S n f = S n g
  | 0, _ => rfl
  | n + 1, h => by
    show S n f + f n = S n g + g n
    rw [S_congr fun r hr => h r (Nat.lt_succ_of_lt hr), h n (Nat.lt_succ_self n)]
theorem S_add (f g : Nat → Int) : ∀ n, S n (fun r => f r + g r) = S n f + S n g
  | 0 => rfl
  | n + 1 => by
    show S n (fun r => f r + g r) + (f n + g n) = (S n f + f n) + (S n g + g n)
    rw [S_add f g n]; omega
theorem S_mul (k : Int) (f : Nat → Int) : ∀ n, S n (fun r => k * f r) = k * S n f
  | 0 => by show (0 : Int) = k * 0; rw [Int.mul_zero]
  | n + 1 => by
    show S n (fun r => k * f r) + k * f n = k * (S n f + f n)
    rw [S_mul k f n, Int.mul_add]
theorem S_const (k : Int) : ∀ n : Nat, S n (fun _ => k) = n * k
  | 0 => by simp [S]
  | n + 1 => by
    show S n (fun _ => k) + k = _
    rw [S_const k n]; grind
theorem S_swap (F : Nat → Nat → Int) (m : Nat) : ∀ n, S n (fun r => S m fun j => F r j) = S m (fun j => S n fun r => F r j)
  | 0 => by
    show (0 : Int) = S m fun _ => 0
    rw [S_const]; simp
  | n + 1 => by
    show S n (fun r => S m fun j => F r j) + S m (fun j => F n j) = S m fun j => (S n fun r => F r j) + F n j
    rw [S_swap F m n, S_add]
theorem S_list (f : Nat → Int) : ∀ n, S n f = ((List.range n).map f).sum
  | 0 => rfl
  | n + 1 => by
    rw [List.range_succ, List.map_append, List.sum_append, ← S_list f n]
    simp [S]
theorem S_id : ∀ n : Nat, 2 * S n (fun r => (r : Int)) = n * (n - 1)
  | 0 => by simp [S]
  | n + 1 => by
    show 2 * (S n (fun r => (r : Int)) + n) = _
    have := S_id n
    grind
theorem S_sq : ∀ n : Nat, 6 * S n (fun r => (r : Int) * r) = n * (n - 1) * (2 * n - 1)
  | 0 => by simp [S]
  | n + 1 => by
    show 6 * (S n (fun r => (r : Int) * r) + n * n) = _
    have := S_sq n
    grind
theorem sum_perm {l₁ l₂ : List Int} (h : l₁.Perm l₂) : l₁.sum = l₂.sum := by
  induction h with
  | nil => rfl
  | cons x _ ih => simp [ih]
  | swap x y l => simp; omega
  | trans _ _ h1 h2 => exact h1.trans h2
theorem mod_back {c d a x : Nat} (h : (d * a) % c = 1 % c) : (a * (d * x % c)) % c = x % c := by
  rw [Nat.mul_mod, Nat.mod_mod, ← Nat.mul_mod, ← Nat.mul_assoc, Nat.mul_comm a d, Nat.mul_mod, h, ← Nat.mul_mod, Nat.one_mul]
/-- r to d r is one to one among the rests by c -/
theorem S_turn {c d a : Nat} (hc : 0 < c) (h : (d * a) % c = 1 % c) (f : Nat → Int) : S c (fun r => f (d * r % c)) = S c f := by
  rw [S_list, S_list]
  have e : (List.range c).map (fun r => f (d * r % c)) = ((List.range c).map fun r => d * r % c).map f := by rw [List.map_map]; rfl
  rw [e]
  refine sum_perm (List.Perm.map f ?_)
  refine (List.perm_ext_iff_of_nodup ?_ List.nodup_range).mpr ?_
  · refine List.pairwise_map.mpr ?_
    refine List.Pairwise.imp_of_mem ?_ (List.nodup_range (n := c))
    intro r1 r2 h1 h2 hne he
    have e1 := mod_back (x := r1) h
    have e2 := mod_back (x := r2) h
    rw [he, e2] at e1
    rw [List.mem_range] at h1 h2
    rw [Nat.mod_eq_of_lt h1, Nat.mod_eq_of_lt h2] at e1
    exact hne e1.symm
  · intro x
    rw [List.mem_map, List.mem_range]
    constructor
    · rintro ⟨r, _, rfl⟩
      exact Nat.mod_lt _ hc
    · intro hx
      refine ⟨a * x % c, List.mem_range.mpr (Nat.mod_lt _ hc), ?_⟩
      have h' : (a * d) % c = 1 % c := by rw [Nat.mul_comm]; exact h
      have := mod_back (x := x) h'
      rw [Nat.mod_eq_of_lt hx] at this
      exact this
theorem S_count (q : Nat) : ∀ n : Nat, S (n + 1) (fun j => if 0 < j ∧ j ≤ q then 1 else 0) = (min q n : Nat)
  | 0 => by simp [S]
  | n + 1 => by
    show S (n + 1) (fun j => if 0 < j ∧ j ≤ q then 1 else 0) + (if 0 < n + 1 ∧ n + 1 ≤ q then 1 else 0) = _
    rw [S_count q n]
    split <;> omega
theorem S_above (m : Nat) : ∀ n : Nat, m < n → 2 * S n (fun r => if m < r then (r : Int) else 0) = n * (n - 1) - m * (m + 1)
  | 0, h => by omega
  | n + 1, h => by
    show 2 * (S n (fun r => if m < r then (r : Int) else 0) + if m < n then (n : Int) else 0) = _
    by_cases hm : m < n
    · have := S_above m n hm
      rw [if_pos hm]
      grind
    · have e : m = n := by omega
      subst e
      rw [if_neg hm]
      have z : S m (fun r => if m < r then (r : Int) else 0) = 0 := by
        rw [S_congr (g := fun _ => 0) fun r hr => if_neg (by omega), S_const]; simp
      rw [z]
      grind
end Mine
end
section
namespace Mine
theorem sq_id {c d j q t : Int} (h : d * q + t = c * j) : t * t = (c * c) * (j * j) + ((-2 * c * d) * (j * q) + (d * d) * (q * q)) := by
  have : t = c * j - d * q := by omega
  subst this
  grind
theorem lin_id {c d j q t : Int} (h : d * q + t = c * j) : t = c * j + (-d) * q := by
  have : t = c * j - d * q := by omega
  subst this
  grind
theorem rs_id {c d r q t : Int} (h : c * q + t = d * r) : (2 * r - c) * (2 * t - c) = (4 * (d * (r * r) + (-c) * (r * q)) + ((-2 * c) * r + (-2 * c) * t)) + c * c := by
  have : t = d * r - c * q := by omega
  subst this
  grind
/-- d and c have inverses by each other -/
structure Cop (c d : Nat) : Prop where
  hc : 0 < c
  hd : 0 < d
  inv1 : ∃ a, (d * a) % c = 1 % c
  inv2 : ∃ b, (c * b) % d = 1 % d
theorem Cop.symm {c d : Nat} (h : Cop c d) : Cop d c := ⟨h.hd, h.hc, h.inv2, h.inv1⟩
theorem Cop.rest {c d j : Nat} (h : Cop c d) (h0 : 0 < j) (hj : j < d) : 0 < c * j % d := by
  obtain ⟨b, hb⟩ := h.inv2
  have e := mod_back (x := j) hb
  rcases Nat.eq_zero_or_pos (c * j % d) with hz | hz
  · rw [hz, Nat.mul_zero, Nat.zero_mod, Nat.mod_eq_of_lt hj] at e
    omega
  · exact hz
def Xs (c d : Nat) : Int := S c fun r => (r : Int) * ((d * r / c : Nat) : Int)
theorem lattice {c d : Nat} (h : Cop c d) :
    2 * Xs c d = (d : Int) * (c * (c - 1)) - (S d fun j => ((c * j / d : Nat) : Int) * ((c * j / d : Nat) : Int)) - (S d fun j => ((c * j / d : Nat) : Int)) - c * (c - 1) := by
  obtain ⟨d', rfl⟩ : ∃ d', d = d' + 1 := ⟨d - 1, by have := h.hd; omega⟩
  have hc := h.hc
  have e1 : Xs c (d' + 1) = S c (fun r => S (d' + 1) fun j => if 0 < j ∧ c * j ≤ (d' + 1) * r then (r : Int) else 0) := by
    refine S_congr fun r hr => ?_
    have hq : (d' + 1) * r / c ≤ d' := by
      have : (d' + 1) * r / c < d' + 1 := (Nat.div_lt_iff_lt_mul hc).mpr (Nat.mul_lt_mul_of_pos_left hr (Nat.succ_pos d'))
      omega
    have e2 : ((( (d' + 1) * r / c : Nat)) : Int) = S (d' + 1) (fun j => if 0 < j ∧ j ≤ (d' + 1) * r / c then 1 else 0) := by
      rw [S_count, Nat.min_eq_left hq]
    show (r : Int) * (((d' + 1) * r / c : Nat) : Int) = _
    rw [e2, ← S_mul]
    refine S_congr fun j _ => ?_
    have : j ≤ (d' + 1) * r / c ↔ c * j ≤ (d' + 1) * r := by rw [Nat.le_div_iff_mul_le hc, Nat.mul_comm]
    by_cases hj : 0 < j ∧ j ≤ (d' + 1) * r / c
    · rw [if_pos hj, if_pos ⟨hj.1, this.mp hj.2⟩, Int.mul_one]
    · rw [if_neg hj, if_neg (fun q => hj ⟨q.1, this.mpr q.2⟩), Int.mul_zero]
  rw [e1, S_swap, ← S_mul]
  have e3 : S (d' + 1) (fun j => 2 * S c fun r => if 0 < j ∧ c * j ≤ (d' + 1) * r then (r : Int) else 0)
      = S (d' + 1) (fun j => (if 0 < j then (c : Int) * (c - 1) else 0) + (-1) * (((c * j / (d' + 1) : Nat) : Int) * ((c * j / (d' + 1) : Nat) : Int) + ((c * j / (d' + 1) : Nat) : Int))) := by
    refine S_congr fun j hj => ?_
    by_cases h0 : 0 < j
    · have hm : c * j / (d' + 1) < c := (Nat.div_lt_iff_lt_mul (Nat.succ_pos d')).mpr (Nat.mul_lt_mul_of_pos_left hj hc)
      have hr := h.rest h0 hj
      have hdm := Nat.div_add_mod (c * j) (d' + 1)
      have hlt := Nat.mod_lt (c * j) (Nat.succ_pos d')
      have e4 : (S c fun r => if 0 < j ∧ c * j ≤ (d' + 1) * r then (r : Int) else 0) = S c fun r => if c * j / (d' + 1) < r then (r : Int) else 0 := by
        refine S_congr fun r _ => ?_
        have : c * j ≤ (d' + 1) * r ↔ c * j / (d' + 1) < r := by
          rw [Nat.div_lt_iff_lt_mul (show 0 < d' + 1 from Nat.succ_pos d')]
          constructor
          · intro hle
            have hne : c * j ≠ (d' + 1) * r := by
              intro he
              rw [he, Nat.mul_mod_right] at hr
              omega
            rw [Nat.mul_comm r]
            omega
          · intro hl
            rw [Nat.mul_comm r] at hl
            omega
        by_cases hj' : c * j ≤ (d' + 1) * r
        · rw [if_pos ⟨h0, hj'⟩, if_pos (this.mp hj')]
        · rw [if_neg (fun q => hj' q.2), if_neg (fun q => hj' (this.mpr q))]
      rw [e4, S_above _ c hm, if_pos h0]
      grind
    · have : j = 0 := by omega
      subst this
      rw [S_congr (g := fun _ => 0) fun r _ => if_neg (by omega), S_const, if_neg (by omega)]
      simp
  rw [e3, S_add, S_mul, S_add]
  have e5 : S (d' + 1) (fun j => if 0 < j then (c : Int) * (c - 1) else 0) = d' * ((c : Int) * (c - 1)) := by
    have : ∀ n : Nat, S (n + 1) (fun j => if 0 < j then (c : Int) * (c - 1) else 0) = n * ((c : Int) * (c - 1)) := by
      intro n
      induction n with
      | zero => simp [S]
      | succ n ih =>
        show S (n + 1) _ + (if 0 < n + 1 then (c : Int) * (c - 1) else 0) = _
        rw [ih, if_pos (by omega)]
        grind
    exact this d'
  rw [e5]
  grind
/-- four times c * c times Dedekind's sum, with c * c more -/
def Rs (c d : Nat) : Int := S c fun r => (2 * (r : Int) - c) * (2 * ((d * r % c : Nat) : Int) - c)
theorem Rs_eq {c d : Nat} (h : Cop c d) : Rs c d = 4 * (d * (S c fun r => (r : Int) * r) - c * Xs c d) - c * c * (c - 2) := by
  obtain ⟨a, ha⟩ := h.inv1
  have h1 : S c (fun r => ((d * r % c : Nat) : Int)) = S c fun r => (r : Int) := S_turn h.hc ha fun r => (r : Int)
  have h2 := S_id c
  have e : Rs c d = S c (fun r => (4 * (d * ((r : Int) * r) + (-c) * ((r : Int) * ((d * r / c : Nat) : Int))) + ((-2 * c) * (r : Int) + (-2 * c) * ((d * r % c : Nat) : Int))) + (c : Int) * c) := by
    refine S_congr fun r _ => ?_
    have hdm : ((c : Int)) * ((d * r / c : Nat) : Int) + ((d * r % c : Nat) : Int) = d * r := by exact_mod_cast Nat.div_add_mod (d * r) c
    exact rs_id hdm
  rw [e, S_add, S_add, S_add, S_mul, S_add, S_mul, S_mul, S_mul, S_mul, S_const, h1]
  show 4 * (_ + _ * Xs c d) + _ + _ = _
  generalize Xs c d = y
  generalize S c (fun j => (j : Int) * j) = s2
  generalize S c (fun j => (j : Int)) = s1 at *
  clear e h1 ha
  grind
theorem recip_id {c d s1 s2 s3 m1 m2 x y u v : Int} (q1 : 2 * s1 = d * (d - 1)) (q2 : 6 * s2 = d * (d - 1) * (2 * d - 1)) (q3 : 6 * s3 = c * (c - 1) * (2 * c - 1))
    (t1 : c * s1 - d * m1 = s1) (t2 : c * c * s2 - 2 * c * d * y + d * d * m2 = s2) (hL : 2 * x = d * (c * (c - 1)) - m2 - m1 - c * (c - 1))
    (r1 : u = 4 * (d * s3 - c * x) - c * c * (c - 2)) (r2 : v = 4 * (c * s2 - d * y) - d * d * (d - 2)) :
    3 * (d * d) * (u - c * c) + 3 * (c * c) * (v - d * d) = c * d * (d * d) + c * c * (c * d) + c * d - 3 * (c * c) * (d * d) := by
  have key : 3 * (d * d) * (u - c * c) + 3 * (c * c) * (v - d * d) - (c * d * (d * d) + c * c * (c * d) + c * d - 3 * (c * c) * (d * d))
      = 3 * (d * d) * (u - (4 * (d * s3 - c * x) - c * c * (c - 2))) + 3 * (c * c) * (v - (4 * (c * s2 - d * y) - d * d * (d - 2))) + 2 * (d * d * d) * (6 * s3 - c * (c - 1) * (2 * c - 1))
        - 6 * (c * (d * d)) * (2 * x - (d * (c * (c - 1)) - m2 - m1 - c * (c - 1))) + 2 * (c * c * c) * (6 * s2 - d * (d - 1) * (2 * d - 1)) + 6 * c * (c * c * s2 - 2 * c * d * y + d * d * m2 - s2)
        + c * (1 - c * c) * (6 * s2 - d * (d - 1) * (2 * d - 1)) - 6 * (c * d) * (c * s1 - d * m1 - s1) + 3 * (c * d * (c - 1)) * (2 * s1 - d * (d - 1)) := by
    clear q1 q2 q3 t1 t2 hL r1 r2
    grind
  rw [← r1, ← r2, q3, hL, q2, t2, t1, q1] at key
  simp only [Int.sub_self, Int.mul_zero, Int.add_zero, Int.sub_zero] at key
  omega
theorem recip {c d : Nat} (h : Cop c d) : 3 * ((d : Int) * d) * (Rs c d - c * c) + 3 * ((c : Int) * c) * (Rs d c - d * d) = c * d * (d * d) + c * c * (c * d) + c * d - 3 * (c * c) * (d * d) := by
  have hL := lattice h
  have r1 := Rs_eq h
  have r2 := Rs_eq h.symm
  obtain ⟨b, hb⟩ := h.inv2
  have t1 : S d (fun j => ((c * j % d : Nat) : Int)) = S d fun j => (j : Int) := S_turn h.hd hb fun j => (j : Int)
  have t2 : S d (fun j => ((c * j % d : Nat) : Int) * ((c * j % d : Nat) : Int)) = S d fun j => (j : Int) * j := S_turn h.hd hb fun j => (j : Int) * j
  have e1 : S d (fun j => ((c * j % d : Nat) : Int)) = c * (S d fun j => (j : Int)) - d * S d fun j => ((c * j / d : Nat) : Int) := by
    have : S d (fun j => ((c * j % d : Nat) : Int)) = S d (fun j => (c : Int) * j + (-d) * ((c * j / d : Nat) : Int)) := by
      refine S_congr fun j _ => ?_
      have hdm : ((d : Int)) * ((c * j / d : Nat) : Int) + ((c * j % d : Nat) : Int) = c * j := by exact_mod_cast Nat.div_add_mod (c * j) d
      exact lin_id hdm
    rw [this, S_add, S_mul, S_mul, Int.neg_mul, ← Int.sub_eq_add_neg]
  have e2 : S d (fun j => ((c * j % d : Nat) : Int) * ((c * j % d : Nat) : Int)) = c * c * (S d fun j => (j : Int) * j) - 2 * c * d * Xs d c + d * d * S d fun j => ((c * j / d : Nat) : Int) * ((c * j / d : Nat) : Int) := by
    have : S d (fun j => ((c * j % d : Nat) : Int) * ((c * j % d : Nat) : Int)) = S d (fun j => ((c : Int) * c) * ((j : Int) * j) + ((-2 * c * d) * ((j : Int) * ((c * j / d : Nat) : Int)) + ((d : Int) * d) * (((c * j / d : Nat) : Int) * ((c * j / d : Nat) : Int)))) := by
      refine S_congr fun j _ => ?_
      have hdm : ((d : Int)) * ((c * j / d : Nat) : Int) + ((c * j % d : Nat) : Int) = c * j := by exact_mod_cast Nat.div_add_mod (c * j) d
      exact sq_id hdm
    rw [this, S_add, S_add, S_mul, S_mul, S_mul]
    show _ + (_ * Xs d c + _) = _
    generalize Xs d c = y
    generalize S d (fun j => (j : Int) * j) = s2
    generalize S d (fun j => ((c * j / d : Nat) : Int) * ((c * j / d : Nat) : Int)) = m2
    clear this t1 t2 e1 hL r1 r2
    grind
  have q1 := S_id d
  have q2 := S_sq d
  have q3 := S_sq c
  generalize S d (fun j => (j : Int)) = s1 at *
  generalize S d (fun j => (j : Int) * j) = s2 at *
  generalize S c (fun j => (j : Int) * j) = s3 at *
  generalize S d (fun j => ((c * j / d : Nat) : Int) * ((c * j / d : Nat) : Int)) = m2 at *
  generalize S d (fun j => ((c * j / d : Nat) : Int)) = m1 at *
  generalize Xs c d = x at *
  generalize Xs d c = y at *
  generalize Rs c d = u at *
  generalize Rs d c = v at *
  rw [e1] at t1
  rw [e2] at t2
  exact recip_id q1 q2 q3 t1 t2 hL r1 r2
end Mine
end
section
open PySem PySem.W PyProof.Rows
namespace Mine
theorem mat_true : ∀ l : List Bool, mat (l ++ [true]) = ((mat l).1, (mat l).1 + (mat l).2.1, (mat l).2.2.1, (mat l).2.2.1 + (mat l).2.2.2)
  | [] => rfl
  | true :: r => by
    simp only [List.cons_append, mat, mat_true r]
    refine Prod.ext ?_ (Prod.ext ?_ (Prod.ext ?_ ?_)) <;> dsimp only <;> omega
  | false :: r => by
    simp only [List.cons_append, mat, mat_true r]
    refine Prod.ext ?_ (Prod.ext ?_ (Prod.ext ?_ ?_)) <;> dsimp only <;> omega
theorem mat_false : ∀ l : List Bool, mat (l ++ [false]) = ((mat l).1 + (mat l).2.1, (mat l).2.1, (mat l).2.2.1 + (mat l).2.2.2, (mat l).2.2.2)
  | [] => rfl
  | true :: r => by
    simp only [List.cons_append, mat, mat_false r]
    refine Prod.ext ?_ (Prod.ext ?_ (Prod.ext ?_ ?_)) <;> dsimp only <;> omega
  | false :: r => by
    simp only [List.cons_append, mat, mat_false r]
    refine Prod.ext ?_ (Prod.ext ?_ (Prod.ext ?_ ?_)) <;> dsimp only <;> omega
/-- ends less dots -/
def mor : List Bool → Int
  | [] => 0
  | true :: r => 1 + mor r
  | false :: r => mor r - 1
theorem mor_append : ∀ l l' : List Bool, mor (l ++ l') = mor l + mor l'
  | [], l' => by simp [mor]
  | true :: r, l' => by simp only [List.cons_append, mor, mor_append r l']; omega
  | false :: r, l' => by simp only [List.cons_append, mor, mor_append r l']; omega
theorem cop_of {a b c d : Nat} (h : a * d = b * c + 1) (hc : 0 < c) (hd : 0 < d) : Cop c d := by
  refine ⟨hc, hd, ⟨a, ?_⟩, ⟨b * (d - 1), ?_⟩⟩
  · rw [Nat.mul_comm, h, Nat.add_comm, Nat.add_mul_mod_self_right]
  · obtain ⟨e, rfl⟩ : ∃ e, d = e + 1 := ⟨d - 1, by omega⟩
    have e1 : c * (b * e) + (e + 1) = 1 + (e + 1) * (a * e) := by
      have : (e + 1) * (a * e) = (a * (e + 1)) * e := by rw [Nat.mul_comm, Nat.mul_assoc, Nat.mul_comm e, ← Nat.mul_assoc]
      rw [this, h, Nat.add_mul, Nat.one_mul, ← Nat.mul_assoc, Nat.mul_comm c b]
      omega
    have e2 : (c * (b * e)) % (e + 1) = (c * (b * e) + (e + 1)) % (e + 1) := by rw [Nat.add_mod_right]
    show (c * (b * e)) % (e + 1) = _
    rw [e2, e1, Nat.add_mul_mod_self_left]
theorem Rs_shift (c d : Nat) : Rs d (c + d) = Rs d c := by
  refine S_congr fun j _ => ?_
  have : (c + d) * j % d = c * j % d := by rw [Nat.add_mul, Nat.add_mul_mod_self_left]
  rw [this]
theorem Rs_shift' (c d : Nat) : Rs c (c + d) = Rs c d := by
  rw [Nat.add_comm]; exact Rs_shift d c
theorem step_id {a b c d m R1 R2 R3 : Int} (hD : a * d = b * c + 1) (hI : c * c * (m + 3) = c * (a + d) - 3 * R1)
    (h1 : 3 * (d * d) * R1 + 3 * (c * c) * R3 = c * d * (d * d) + c * c * (c * d) + c * d - 3 * (c * c) * (d * d))
    (h2 : 3 * (d * d) * R2 + 3 * ((c + d) * (c + d)) * R3 = (c + d) * d * (d * d) + (c + d) * (c + d) * ((c + d) * d) + (c + d) * d - 3 * ((c + d) * (c + d)) * (d * d)) (hc : 0 < c) (hd : 0 < d) :
    (c + d) * (c + d) * (m - 1 + 3) = (c + d) * (a + b + d) - 3 * R2 := by
  have key : (c * c) * (d * d) * ((c + d) * (c + d) * (m - 1 + 3) - ((c + d) * (a + b + d) - 3 * R2))
      = (c * c) * (3 * (d * d) * R2 + 3 * ((c + d) * (c + d)) * R3 - ((c + d) * d * (d * d) + (c + d) * (c + d) * ((c + d) * d) + (c + d) * d - 3 * ((c + d) * (c + d)) * (d * d)))
        - ((c + d) * (c + d)) * (3 * (d * d) * R1 + 3 * (c * c) * R3 - (c * d * (d * d) + c * c * (c * d) + c * d - 3 * (c * c) * (d * d)))
        + (d * d) * ((c + d) * (c + d)) * (c * c * (m + 3) - (c * (a + d) - 3 * R1)) + c * (c + d) * (d * d) * (a * d - (b * c + 1)) := by
    clear hD hI h1 h2
    grind
  rw [h2, h1, hI, hD] at key
  simp only [Int.sub_self, Int.mul_zero, Int.add_zero] at key
  have hcd : (c * c) * (d * d) ≠ 0 := Int.mul_ne_zero (Int.mul_ne_zero (by omega) (by omega)) (Int.mul_ne_zero (by omega) (by omega))
  rcases Int.mul_eq_zero.mp key with h | h
  · exact absurd h hcd
  · omega
structure Tok2 (l : List Bool) (a b c d : Nat) : Prop where
  mat_eq : mat l = ((a : Int), (b : Int), (c : Int), (d : Int))
  det : a * d = b * c + 1
  dpos : 0 < d
  zero : c = 0 → a = 1 ∧ d = 1 ∧ (b : Int) = mor l
  dede : 0 < c → (c : Int) * c * (mor l + 3) = c * (a + d) - 3 * (Rs c d - c * c)
theorem snoc_ind {P : List Bool → Prop} (h0 : P []) (hs : ∀ l b, P l → P (l ++ [b])) : ∀ l, P l := by
  intro l
  have : ∀ r : List Bool, P r.reverse := by
    intro r
    induction r with
    | nil => exact h0
    | cons b r ih => rw [List.reverse_cons]; exact hs _ _ ih
  have := this l.reverse
  rwa [List.reverse_reverse] at this
theorem tok2 : ∀ l : List Bool, ∃ a b c d, Tok2 l a b c d := by
  refine snoc_ind ⟨1, 0, 0, 1, rfl, rfl, by decide, fun _ => ⟨rfl, rfl, rfl⟩, fun h => absurd h (by decide)⟩ ?_
  rintro l t ⟨a, b, c, d, h⟩
  have hm := h.mat_eq
  cases t
  · refine ⟨a + b, b, c + d, d, ?_, ?_, h.dpos, ?_, ?_⟩
    · rw [mat_false, hm]; simp
    · have := h.det; rw [Nat.add_mul, Nat.mul_add, this]; omega
    · intro hz; have := h.dpos; omega
    · intro _
      have e1 : mor (l ++ [false]) = mor l - 1 := by rw [mor_append]; simp only [mor]; omega
      rw [e1]
      by_cases hc : 0 < c
      · have cop := cop_of h.det hc h.dpos
        have cop2 : Cop (c + d) d := by
          refine cop_of (a := a + b) (b := b) ?_ (by omega) h.dpos
          have := h.det; rw [Nat.add_mul, Nat.mul_add, this]; omega
        have r1 := recip cop
        have r2 := recip cop2
        rw [Rs_shift] at r2
        have hI := h.dede hc
        have hD : (a : Int) * d = b * c + 1 := by exact_mod_cast h.det
        simp only [Int.natCast_add] at r2 ⊢
        exact step_id hD hI r1 r2 (by omega) (by have := h.dpos; omega)
      · have hz : c = 0 := by omega
        obtain ⟨ha, hd, hb⟩ := h.zero hz
        subst ha hd hz
        have er : Rs (0 + 1) 1 = 1 := by decide
        rw [er]
        simp only [Int.natCast_add]
        have : mor l = (b : Int) := hb.symm
        rw [this]
        simp
        omega
  · refine ⟨a, a + b, c, c + d, ?_, ?_, ?_, ?_, ?_⟩
    · rw [mat_true, hm]; simp
    · have := h.det; rw [Nat.mul_add, Nat.add_mul, this]; omega
    · have := h.dpos; omega
    · intro hz
      obtain ⟨ha, hd, hb⟩ := h.zero hz
      refine ⟨ha, by omega, ?_⟩
      rw [mor_append]
      simp only [mor]
      omega
    · intro hc
      have hI := h.dede hc
      have e1 : mor (l ++ [true]) = mor l + 1 := by rw [mor_append]; simp only [mor]; omega
      rw [e1, Rs_shift']
      simp only [Int.natCast_add]
      generalize Rs c d - (c : Int) * c = R at *
      grind
end Mine
end
section
open PySem PySem.W PyProof.Rows
namespace Mine
theorem S_shift (f : Nat → Int) : ∀ n, S (n + 1) f = f 0 + S n fun r => f (r + 1)
  | 0 => by simp [S]
  | n + 1 => by
    show S (n + 1) f + f (n + 1) = f 0 + (S n (fun r => f (r + 1)) + f (n + 1))
    rw [S_shift f n]; omega
theorem restsF_eq {c d : Nat} (hc : 0 < c) : restsF (c : Int) (d : Int) = Rs c d - c * c := by
  obtain ⟨n, rfl⟩ : ∃ n, c = n + 1 := ⟨c - 1, by omega⟩
  have e1 : ((((n + 1 : Nat) : Int)) - 1).toNat = n := by omega
  unfold restsF Rs
  rw [e1, S_shift, S_list]
  have e2 : (rangeKs 1 n).map (restT ((n + 1 : Nat) : Int) (d : Int)) = (List.range n).map (fun r => (2 * ((r + 1 : Nat) : Int) - ((n + 1 : Nat) : Int)) * (2 * ((d * (r + 1) % (n + 1) : Nat) : Int) - ((n + 1 : Nat) : Int))) := by
    unfold rangeKs
    rw [List.map_map]
    refine List.map_congr_left fun r _ => ?_
    show (2 * (1 + (r : Int)) - ((n + 1 : Nat) : Int)) * (2 * ((d : Int) * (1 + (r : Int))).fmod ((n + 1 : Nat) : Int) - ((n + 1 : Nat) : Int)) = _
    have e3 : (1 + (r : Int)) = ((r + 1 : Nat) : Int) := by omega
    have e4 : ((d : Int) * ((r + 1 : Nat) : Int)).fmod ((n + 1 : Nat) : Int) = ((d * (r + 1) % (n + 1) : Nat) : Int) := by
      rw [Int.fmod_eq_emod_of_nonneg _ (by omega)]
      norm_cast
    rw [e3, e4]
  rw [e2]
  have e5 : (2 * ((0 : Nat) : Int) - ((n + 1 : Nat) : Int)) * (2 * ((d * 0 % (n + 1) : Nat) : Int) - ((n + 1 : Nat) : Int)) = ((n + 1 : Nat) : Int) * ((n + 1 : Nat) : Int) := by
    simp [Int.neg_mul_neg]
  rw [e5]
  omega
theorem mat_dots (l : List Bool) : ∀ n : Nat, mat (l ++ List.replicate n false) = ((mat l).1 + n * (mat l).2.1, (mat l).2.1, (mat l).2.2.1 + n * (mat l).2.2.2, (mat l).2.2.2)
  | 0 => by simp
  | n + 1 => by
    rw [List.replicate_succ', ← List.append_assoc, mat_false, mat_dots l n]
    refine Prod.ext ?_ (Prod.ext ?_ (Prod.ext ?_ ?_)) <;> dsimp only
    · grind
    · grind
theorem tabs_mat : ∀ (ks : List Int) (i : Nat) (l : List Bool), (∀ k ∈ ks, 0 ≤ k) → tabs (i + 1) (mat l) ks = mat (l ++ toksR ks)
  | [], _, l, _ => by simp [tabs, toksR]
  | k :: r, i, l, h => by
    have hk : 0 ≤ k := h k (List.mem_cons_self ..)
    obtain ⟨n, rfl⟩ := Int.eq_ofNat_of_zero_le hk
    have e : stepT (mat l) (i + 1) (n : Int) = mat ((l ++ [true]) ++ List.replicate n false) := by
      rw [mat_dots, mat_true, stepT, if_pos (Nat.succ_pos i)]
    show tabs (i + 1 + 1) (stepT (mat l) (i + 1) (n : Int)) r = _
    rw [e, tabs_mat r (i + 1) _ fun k hk => h k (List.mem_cons_of_mem _ hk)]
    simp [toksR, List.append_assoc]
theorem tabs_all {ks : List Int} (h : ∀ k ∈ ks, 0 ≤ k) : tabs 0 (1, 0, 0, 1) ks = mat (toksOf ks) := by
  cases ks with
  | nil => rfl
  | cons k r =>
    have hk : 0 ≤ k := h k (List.mem_cons_self ..)
    obtain ⟨n, rfl⟩ := Int.eq_ofNat_of_zero_le hk
    have e : stepT (1, 0, 0, 1) 0 (n : Int) = mat ([] ++ List.replicate n false) := by
      rw [mat_dots, stepT, if_neg (by omega)]
      rfl
    show tabs (0 + 1) (stepT (1, 0, 0, 1) 0 (n : Int)) r = _
    rw [e, tabs_mat r 0 _ fun k hk => h k (List.mem_cons_of_mem _ hk)]
    simp [toksOf]
theorem fin_dots (l : List Bool) (ns : List Int) : ∀ (n : Nat) (k : Int), fin (ns ++ [k]) (List.replicate n false ++ l) = fin (ns ++ [k + n]) l
  | 0, k => by simp
  | n + 1, k => by
    rw [List.replicate_succ, List.cons_append]
    show fin (upLast (ns ++ [k])) (List.replicate n false ++ l) = _
    rw [upLast_snoc, fin_dots l ns n (k + 1), show k + 1 + (n : Int) = k + ((n + 1 : Nat) : Int) from by omega]
theorem fin_R : ∀ (ks ns : List Int), (∀ k ∈ ks, 0 ≤ k) → fin ns (toksR ks) = ns ++ ks
  | [], ns, _ => by simp [toksR, fin]
  | k :: r, ns, h => by
    have hk : 0 ≤ k := h k (List.mem_cons_self ..)
    obtain ⟨n, rfl⟩ := Int.eq_ofNat_of_zero_le hk
    show fin (ns ++ [0]) (List.replicate (Int.toNat (n : Int)) false ++ toksR r) = _
    rw [Int.toNat_natCast, fin_dots, fin_R r _ fun k hk => h k (List.mem_cons_of_mem _ hk)]
    simp
theorem fin_all {ks : List Int} (h : ∀ k ∈ ks, 0 ≤ k) (hne : ks ≠ []) : fin [0] (toksOf ks) = ks := by
  cases ks with
  | nil => exact absurd rfl hne
  | cons k r =>
    have hk : 0 ≤ k := h k (List.mem_cons_self ..)
    obtain ⟨n, rfl⟩ := Int.eq_ofNat_of_zero_le hk
    show fin ([] ++ [0]) (List.replicate (Int.toNat (n : Int)) false ++ toksR r) = _
    rw [Int.toNat_natCast, fin_dots, fin_R r _ fun k hk => h k (List.mem_cons_of_mem _ hk)]
    simp
theorem mor_dots : ∀ n : Nat, mor (List.replicate n false) = -(n : Int)
  | 0 => rfl
  | n + 1 => by rw [List.replicate_succ]; show mor (List.replicate n false) - 1 = _; rw [mor_dots n]; omega
theorem mor_R : ∀ ks : List Int, (∀ k ∈ ks, 0 ≤ k) → mor (toksR ks) = ks.length - ks.sum
  | [], _ => rfl
  | k :: r, h => by
    have hk : 0 ≤ k := h k (List.mem_cons_self ..)
    show 1 + mor (List.replicate k.toNat false ++ toksR r) = _
    rw [mor_append, mor_dots, mor_R r fun k hk => h k (List.mem_cons_of_mem _ hk), List.length_cons, List.sum_cons]
    omega
theorem mor_all {ks : List Int} (h : ∀ k ∈ ks, 0 ≤ k) (hne : ks ≠ []) : mor (toksOf ks) = ks.length - 1 - ks.sum := by
  cases ks with
  | nil => exact absurd rfl hne
  | cons k r =>
    have hk : 0 ≤ k := h k (List.mem_cons_self ..)
    show mor (List.replicate k.toNat false ++ toksR r) = _
    rw [mor_append, mor_dots, mor_R r fun k hk => h k (List.mem_cons_of_mem _ hk), List.length_cons, List.sum_cons]
    omega
theorem len_R : ∀ ks : List Int, (∀ k ∈ ks, 0 ≤ k) → ((toksR ks).length : Int) = ks.length + ks.sum
  | [], _ => rfl
  | k :: r, h => by
    have hk : 0 ≤ k := h k (List.mem_cons_self ..)
    have ih := len_R r fun k hk => h k (List.mem_cons_of_mem _ hk)
    simp only [toksR, List.length_cons, List.length_append, List.length_replicate, List.sum_cons]
    omega
theorem len_all {ks : List Int} (h : ∀ k ∈ ks, 0 ≤ k) : ((toksOf ks).length : Int) ≤ ks.length + ks.sum := by
  cases ks with
  | nil => decide
  | cons k r =>
    have hk : 0 ≤ k := h k (List.mem_cons_self ..)
    have ih := len_R r fun k hk => h k (List.mem_cons_of_mem _ hk)
    simp only [toksOf, List.length_cons, List.length_append, List.length_replicate, List.sum_cons]
    omega
theorem mat_le : ∀ l : List Bool, (mat l).1 ≤ 2 ^ l.length ∧ (mat l).2.1 ≤ 2 ^ l.length ∧ (mat l).2.2.1 ≤ 2 ^ l.length ∧ (mat l).2.2.2 ≤ 2 ^ l.length
  | [] => by decide
  | true :: r => by
    have h := mat_le r
    have e : (2 : Int) ^ (r.length + 1) = 2 ^ r.length * 2 := Int.pow_succ ..
    have p := mat_pos r
    simp only [mat, List.length_cons, e]
    omega
  | false :: r => by
    have h := mat_le r
    have e : (2 : Int) ^ (r.length + 1) = 2 ^ r.length * 2 := Int.pow_succ ..
    have p := mat_pos r
    simp only [mat, List.length_cons, e]
    omega
theorem mat_a : ∀ l : List Bool, 0 < (mat l).1
  | [] => by decide
  | true :: r => by have h := mat_a r; have p := mat_pos r; simp only [mat]; omega
  | false :: r => by have h := mat_a r; simp only [mat]; omega
theorem mat_c : ∀ l : List Bool, false ∈ l → 0 < (mat l).2.2.1
  | [], h => nomatch h
  | true :: r, h => by
    have : false ∈ r := by simpa using h
    have h := mat_c r this; simp only [mat]; omega
  | false :: r, _ => by have h := mat_a r; have p := mat_pos r; simp only [mat]; omega
theorem dot_in_R : ∀ ks : List Int, (∀ k ∈ ks, 0 ≤ k) → 0 < ks.sum → false ∈ toksR ks
  | [], _, h => absurd h (by decide)
  | k :: r, h, hs => by
    rw [List.sum_cons] at hs
    have hk : 0 ≤ k := h k (List.mem_cons_self ..)
    by_cases h0 : 0 < k
    · refine List.mem_cons_of_mem _ (List.mem_append.mpr (.inl (List.mem_replicate.mpr ⟨by omega, rfl⟩)))
    · exact List.mem_cons_of_mem _ (List.mem_append.mpr (.inr (dot_in_R r (fun k hk => h k (List.mem_cons_of_mem _ hk)) (by omega))))
theorem dot_in {ks : List Int} (h : ∀ k ∈ ks, 0 ≤ k) (hs : 0 < ks.sum) : false ∈ toksOf ks := by
  cases ks with
  | nil => exact absurd hs (by decide)
  | cons k r =>
    rw [List.sum_cons] at hs
    have hk : 0 ≤ k := h k (List.mem_cons_self ..)
    by_cases h0 : 0 < k
    · exact List.mem_append.mpr (.inl (List.mem_replicate.mpr ⟨by omega, rfl⟩))
    · exact List.mem_append.mpr (.inr (dot_in_R r (fun k hk => h k (List.mem_cons_of_mem _ hk)) (by omega)))
theorem good_of {l : List Int} {T : Int} {ks : List Int} (hnn : ∀ k ∈ ks, 0 ≤ k) (hne : ks ≠ []) (hpos : 0 < ks.sum) (hb : ks.sum + ks.length ≤ 39) (hrows : rowsT (sentF l T) = ks) : Goodness l T ks := by
  have hlen := len_all hnn
  have hle := mat_le (toksOf ks)
  have hc := mat_c _ (dot_in hnn hpos)
  have hp := mat_pos (toksOf ks)
  have h2 : (2 : Int) ^ (toksOf ks).length ≤ 2 ^ 39 := by
    have : (toksOf ks).length ≤ 39 := by omega
    have := Nat.pow_le_pow_right (n := 2) (by decide) this
    exact_mod_cast this
  have e39 : (2 : Int) ^ 39 = 549755813888 := by decide
  obtain ⟨a, b, c, d, tk⟩ := tok2 (toksOf ks)
  have hm := tk.mat_eq
  refine ⟨hrows, tabs_all hnn, by omega, hc, by omega, by omega, by omega, by omega, by omega, by omega, ?_, fin_all hnn hne⟩
  have hc' : 0 < c := by
    rw [hm] at hc
    have hc2 : (0 : Int) < (c : Int) := hc
    omega
  have hD := tk.dede hc'
  rw [mor_all hnn hne, ← restsF_eq hc'] at hD
  rw [hm]
  exact hD
end Mine
end
section
open PySem PySem.W PyProof.Rows
namespace Mine
/-- one sign ahead of the first piece -/
def consH (a : Nat) : List (List Nat) → List (List Nat)
  | [] => [[a]]
  | p :: r => (a :: p) :: r
def joinL (sep : List Nat) : List (List Nat) → List Nat
  | [] => []
  | [p] => p
  | p :: q :: r => p ++ sep ++ joinL sep (q :: r)
def sp1 (c : Nat) : List Nat → List (List Nat)
  | [] => [[]]
  | a :: r => if a = c then [] :: sp1 c r else consH a (sp1 c r)
def sp2 : List Nat → List (List Nat)
  | [] => [[]]
  | [c] => [[c]]
  | c :: d :: r => if c = 13 ∧ d = 10 then [] :: sp2 r else consH c (sp2 (d :: r))
def lines : List Nat → List (List Nat)
  | [] => [[]]
  | [c] => if c = 10 ∨ c = 13 then [[], []] else [[c]]
  | c :: d :: r => if c = 13 ∧ d = 10 then [] :: lines r else if c = 10 ∨ c = 13 then [] :: lines (d :: r) else consH c (lines (d :: r))
theorem consH_ne (a : Nat) (ps : List (List Nat)) : consH a ps ≠ [] := by cases ps <;> simp [consH]
/-- the ways a text opens -/
theorem endInd {P : List Nat → Prop} (h0 : P []) (hb : ∀ r, P r → P (13 :: 10 :: r)) (ht : ∀ r, P r → P (10 :: r)) (hr : ∀ r, (∀ d r', r = d :: r' → d ≠ 10) → P r → P (13 :: r)) (hp : ∀ c r, c ≠ 10 → c ≠ 13 → P r → P (c :: r)) : ∀ (n : Nat) (l : List Nat), l.length ≤ n → P l := by
  intro n
  induction n with
  | zero => intro l hl; have : l = [] := List.length_eq_zero_iff.mp (by omega); subst this; exact h0
  | succ n ih =>
    intro l hl
    match l, hl with
    | [], _ => exact h0
    | c :: r, hl =>
      simp only [List.length_cons] at hl
      by_cases h1 : c = 10
      · subst h1; exact ht r (ih r (by omega))
      by_cases h2 : c = 13
      · subst h2
        match r, hl with
        | [], _ => exact hr [] (by simp) h0
        | d :: r, hl =>
          simp only [List.length_cons] at hl
          by_cases h3 : d = 10
          · subst h3; exact hb r (ih r (by omega))
          · refine hr (d :: r) ?_ (ih _ (by simp only [List.length_cons]; omega))
            intro d' r' e
            injection e with e1 _
            omega
      · exact hp c r h1 h2 (ih r (by omega))
theorem byEnds {P : List Nat → Prop} (l : List Nat) (h0 : P []) (hb : ∀ r, P r → P (13 :: 10 :: r)) (ht : ∀ r, P r → P (10 :: r)) (hr : ∀ r, (∀ d r', r = d :: r' → d ≠ 10) → P r → P (13 :: r)) (hp : ∀ c r, c ≠ 10 → c ≠ 13 → P r → P (c :: r)) : P l := endInd h0 hb ht hr hp l.length l (Nat.le_refl _)
theorem lines_plain {c : Nat} (h1 : c ≠ 10) (h2 : c ≠ 13) (r : List Nat) : lines (c :: r) = consH c (lines r) := by
  cases r with
  | nil => simp [lines, h1, h2, consH]
  | cons d r => simp [lines, h1, h2]
theorem lines_ten (r : List Nat) : lines (10 :: r) = [] :: lines r := by
  cases r with
  | nil => simp [lines]
  | cons d r => simp [lines]
theorem lines_both (r : List Nat) : lines (13 :: 10 :: r) = [] :: lines r := by simp [lines]
theorem lines_ret {r : List Nat} (h : ∀ d r', r = d :: r' → d ≠ 10) : lines (13 :: r) = [] :: lines r := by
  cases r with
  | nil => simp [lines]
  | cons d r => simp [lines, h d r rfl]
theorem lines_ne (l : List Nat) : lines l ≠ [] := by
  refine byEnds (P := fun l => lines l ≠ []) l (by simp [lines]) ?_ ?_ ?_ ?_
  · intro r _; rw [lines_both]; simp
  · intro r _; rw [lines_ten]; simp
  · intro r h _; rw [lines_ret h]; simp
  · intro c r h1 h2 _; rw [lines_plain h1 h2]; exact consH_ne _ _
theorem sp2_plain {c : Nat} (h2 : c ≠ 13) (r : List Nat) : sp2 (c :: r) = consH c (sp2 r) := by
  cases r with
  | nil => simp [sp2, consH]
  | cons d r => simp [sp2, h2]
theorem sp2_both (r : List Nat) : sp2 (13 :: 10 :: r) = [] :: sp2 r := by simp [sp2]
theorem sp2_ret {r : List Nat} (h : ∀ d r', r = d :: r' → d ≠ 10) : sp2 (13 :: r) = consH 13 (sp2 r) := by
  cases r with
  | nil => simp [sp2, consH]
  | cons d r => simp [sp2, h d r rfl]
theorem sp2_ne (l : List Nat) : sp2 l ≠ [] := by
  refine byEnds (P := fun l => sp2 l ≠ []) l (by simp [sp2]) ?_ ?_ ?_ ?_
  · intro r _; rw [sp2_both]; simp
  · intro r _; rw [sp2_plain (by decide)]; exact consH_ne _ _
  · intro r h _; rw [sp2_ret h]; exact consH_ne _ _
  · intro c r h1 h2 _; rw [sp2_plain h2]; exact consH_ne _ _
theorem sp1_ne (c : Nat) : ∀ l : List Nat, sp1 c l ≠ []
  | [] => by simp [sp1]
  | a :: r => by
    unfold sp1
    split
    · simp
    · exact consH_ne _ _
theorem joinL_nil {sep : List Nat} {ps : List (List Nat)} (h : ps ≠ []) : joinL sep ([] :: ps) = sep ++ joinL sep ps := by
  cases ps with
  | nil => exact absurd rfl h
  | cons p r => simp [joinL]
theorem joinL_consH {sep : List Nat} {a : Nat} {ps : List (List Nat)} : joinL sep (consH a ps) = a :: joinL sep ps := by
  cases ps with
  | nil => simp [joinL, consH]
  | cons p r => cases r <;> simp [joinL, consH]
/-- each end as a feed -/
def feed (l : List Nat) : List Nat := joinL [10] (sp1 13 (joinL [10] (sp2 l)))
theorem sp1_cons_eq (c : Nat) (r : List Nat) : sp1 c (c :: r) = [] :: sp1 c r := by simp [sp1]
theorem sp1_cons_ne {a c : Nat} (h : a ≠ c) (r : List Nat) : sp1 c (a :: r) = consH a (sp1 c r) := by simp [sp1, h]
theorem feed_lines (l : List Nat) : sp1 10 (feed l) = lines l := by
  unfold feed
  refine byEnds (P := fun l => sp1 10 (joinL [10] (sp1 13 (joinL [10] (sp2 l)))) = lines l) l (by simp [sp2, joinL, sp1, lines]) ?_ ?_ ?_ ?_
  · intro r ih
    rw [sp2_both, joinL_nil (sp2_ne r), List.singleton_append, sp1_cons_ne (by decide), joinL_consH, sp1_cons_eq, ih, lines_both]
  · intro r ih
    rw [sp2_plain (by decide), joinL_consH, sp1_cons_ne (by decide), joinL_consH, sp1_cons_eq, ih, lines_ten]
  · intro r h ih
    rw [sp2_ret h, joinL_consH, sp1_cons_eq, joinL_nil (sp1_ne _ _), List.singleton_append, sp1_cons_eq, ih, lines_ret h]
  · intro c r h1 h2 ih
    rw [sp2_plain h2, joinL_consH, sp1_cons_ne h2, joinL_consH, sp1_cons_ne h1, ih, lines_plain h1 h2]
theorem fixE_lines (l : List Nat) : fixE l = joinL [13, 10] (lines l) := by
  refine byEnds (P := fun l => fixE l = joinL [13, 10] (lines l)) l (by simp [fixE, lines, joinL]) ?_ ?_ ?_ ?_
  · intro r ih; rw [fixE_both, lines_both, joinL_nil (lines_ne r), ih]; rfl
  · intro r ih; rw [fixE_ten, lines_ten, joinL_nil (lines_ne r), ih]; rfl
  · intro r h ih; rw [fixE_ret h, lines_ret h, joinL_nil (lines_ne r), ih]; rfl
  · intro c r h1 h2 ih; rw [fixE_plain h1 h2, lines_plain h1 h2, joinL_consH, ih]
/-- no end within -/
def Free (p : List Nat) : Prop := ∀ c ∈ p, c ≠ 10 ∧ c ≠ 13
theorem free_nil : Free [] := by intro c h; cases h
theorem free_cons {a : Nat} {p : List Nat} (h1 : a ≠ 10) (h2 : a ≠ 13) (h : Free p) : Free (a :: p) := by
  intro c hc
  rcases List.mem_cons.mp hc with e | e
  · subst e; exact ⟨h1, h2⟩
  · exact h c e
theorem lines_free (l : List Nat) : ∀ p ∈ lines l, Free p := by
  refine byEnds (P := fun l => ∀ p ∈ lines l, Free p) l ?_ ?_ ?_ ?_ ?_
  · intro p hp
    rw [show p = [] from by simpa [lines] using hp]; exact free_nil
  · intro r ih p hp
    rw [lines_both] at hp
    rcases List.mem_cons.mp hp with e | e
    · subst e; exact free_nil
    · exact ih p e
  · intro r ih p hp
    rw [lines_ten] at hp
    rcases List.mem_cons.mp hp with e | e
    · subst e; exact free_nil
    · exact ih p e
  · intro r h ih p hp
    rw [lines_ret h] at hp
    rcases List.mem_cons.mp hp with e | e
    · subst e; exact free_nil
    · exact ih p e
  · intro c r h1 h2 ih p hp
    rw [lines_plain h1 h2] at hp
    cases hl : lines r with
    | nil => exact absurd hl (lines_ne r)
    | cons q t =>
      rw [hl] at hp ih
      rcases List.mem_cons.mp hp with e | e
      · subst e; exact free_cons h1 h2 (ih q (List.mem_cons_self ..))
      · exact ih p (List.mem_cons_of_mem _ e)
theorem joinL_cons2 (sep p q : List Nat) (r : List (List Nat)) : joinL sep (p :: q :: r) = p ++ (sep ++ joinL sep (q :: r)) := by simp [joinL]
/-- what a splitter does on free signs and on the pair -/
theorem back_of {f : List Nat → List (List Nat)} (f0 : f [] = [[]]) (fb : ∀ r, f (13 :: 10 :: r) = [] :: f r) (fp : ∀ c r, c ≠ 10 → c ≠ 13 → f (c :: r) = consH c (f r)) : ∀ ps : List (List Nat), ps ≠ [] → (∀ p ∈ ps, Free p) → f (joinL [13, 10] ps) = ps := by
  have run : ∀ (p : List Nat), Free p → ∀ (t : List Nat) (q : List Nat) (qs : List (List Nat)), f t = q :: qs → f (p ++ t) = (p ++ q) :: qs := by
    intro p
    induction p with
    | nil => intro _ t q qs h; exact h
    | cons a p ih =>
      intro hp t q qs h
      have ha := hp a (List.mem_cons_self ..)
      rw [List.cons_append, fp a _ ha.1 ha.2, ih (fun c hc => hp c (List.mem_cons_of_mem _ hc)) t q qs h]
      rfl
  intro ps
  induction ps with
  | nil => intro h; exact absurd rfl h
  | cons p r ih =>
    intro _ hf
    cases r with
    | nil =>
      have := run p (hf p (List.mem_cons_self ..)) [] [] [] f0
      simpa [joinL] using this
    | cons q r =>
      rw [joinL_cons2]
      have h1 : f ([13, 10] ++ joinL [13, 10] (q :: r)) = [] :: (q :: r) := by
        show f (13 :: 10 :: joinL [13, 10] (q :: r)) = _
        rw [fb, ih (by simp) fun p' h' => hf p' (List.mem_cons_of_mem _ h')]
      rw [run p (hf p (List.mem_cons_self ..)) _ _ _ h1, List.append_nil]
theorem sp2_join {ps : List (List Nat)} (h : ps ≠ []) (hf : ∀ p ∈ ps, Free p) : sp2 (joinL [13, 10] ps) = ps :=
  back_of (by simp [sp2]) sp2_both (fun c r _ h2 => sp2_plain h2 r) ps h hf
theorem lines_join {ps : List (List Nat)} (h : ps ≠ []) (hf : ∀ p ∈ ps, Free p) : lines (joinL [13, 10] ps) = ps :=
  back_of (by simp [lines]) lines_both (fun c r h1 h2 => lines_plain h1 h2 r) ps h hf
/-- a line's dot twice -/
def st : List Nat → List Nat
  | [] => []
  | c :: r => if c = 46 then 46 :: 46 :: r else c :: r
theorem stuff_false : ∀ p : List Nat, Free p → ∀ t, stuff false (p ++ t) = p ++ stuff false t
  | [], _, t => rfl
  | c :: p, h, t => by
    have hc := h c (List.mem_cons_self ..)
    have e : (c == 10) = false := by simp [hc.1]
    show (if false = true ∧ c = 46 then _ else c :: stuff (c == 10) (p ++ t)) = _
    rw [if_neg (by simp), e, stuff_false p (fun a ha => h a (List.mem_cons_of_mem _ ha)) t]
    rfl
theorem stuff_piece : ∀ p : List Nat, Free p → ∀ t, stuff true (p ++ 13 :: t) = st p ++ stuff false (13 :: t)
  | [], _, t => by simp [st, stuff]
  | c :: p, h, t => by
    have hc := h c (List.mem_cons_self ..)
    have e : (c == 10) = false := by simp [hc.1]
    have h' : Free p := fun a ha => h a (List.mem_cons_of_mem _ ha)
    show (if true = true ∧ c = 46 then 46 :: 46 :: stuff false (p ++ 13 :: t) else c :: stuff (c == 10) (p ++ 13 :: t)) = _
    by_cases h6 : c = 46
    · rw [if_pos ⟨rfl, h6⟩, stuff_false p h']
      simp [st, h6]
    · rw [if_neg (fun q => h6 q.2), e, stuff_false p h']
      simp [st, h6]
theorem stuff_last : ∀ p : List Nat, Free p → stuff true p = st p
  | [], _ => by simp [st, stuff]
  | c :: p, h => by
    have hc := h c (List.mem_cons_self ..)
    have e : (c == 10) = false := by simp [hc.1]
    have h' : Free p := fun a ha => h a (List.mem_cons_of_mem _ ha)
    have h2 := stuff_false p h' []
    simp only [List.append_nil] at h2
    show (if true = true ∧ c = 46 then 46 :: 46 :: stuff false p else c :: stuff (c == 10) p) = _
    by_cases h6 : c = 46
    · rw [if_pos ⟨rfl, h6⟩, h2]
      simp [st, h6, stuff]
    · rw [if_neg (fun q => h6 q.2), e, h2]
      simp [st, h6, stuff]
theorem stuff_join : ∀ ps : List (List Nat), (∀ p ∈ ps, Free p) → stuff true (joinL [13, 10] ps) = joinL [13, 10] (ps.map st)
  | [], _ => by simp [joinL, stuff]
  | [p], h => by
    simp only [joinL, List.map_cons, List.map_nil]
    exact stuff_last p (h p (List.mem_cons_self ..))
  | p :: q :: r, h => by
    rw [joinL_cons2, List.map_cons, List.map_cons, joinL_cons2, ← List.map_cons]
    show stuff true (p ++ 13 :: 10 :: joinL [13, 10] (q :: r)) = _
    rw [stuff_piece p (h p (List.mem_cons_self ..)), ← stuff_join (q :: r) fun a ha => h a (List.mem_cons_of_mem _ ha)]
    simp [stuff]
theorem st_free {p : List Nat} (h : Free p) : Free (st p) := by
  cases p with
  | nil => exact free_nil
  | cons c r =>
    show Free (if c = 46 then 46 :: 46 :: r else c :: r)
    split
    · exact free_cons (a := 46) (by decide) (by decide) (free_cons (a := 46) (by decide) (by decide) fun a ha => h a (List.mem_cons_of_mem _ ha))
    · exact h
theorem quoteL_lines (l : List Nat) : quoteL l = joinL [13, 10] ((lines l).map st) := by
  show stuff true (fixE l) = _
  rw [fixE_lines, stuff_join _ (lines_free l)]
theorem lines_quote (l : List Nat) : lines (quoteL l) = (lines l).map st := by
  rw [quoteL_lines, lines_join]
  · simpa using lines_ne l
  · intro p hp
    obtain ⟨q, hq, e⟩ := List.mem_map.mp hp
    subst e
    exact st_free (lines_free l q hq)
theorem sp2_quote (l : List Nat) : sp2 (quoteL l) = (lines l).map st := by
  rw [quoteL_lines, sp2_join]
  · simpa using lines_ne l
  · intro p hp
    obtain ⟨q, hq, e⟩ := List.mem_map.mp hp
    subst e
    exact st_free (lines_free l q hq)
end Mine
end
section
open PySem PySem.W PyProof.Rows
namespace Mine
open Builtin Builtin.Str
theorem join_joinL (sep : Str) : ∀ ps : List Str, (Str.join sep ps).cps.toList = joinL sep.cps.toList (ps.map fun p => p.cps.toList)
  | [] => rfl
  | [p] => rfl
  | p :: q :: r => by
    show (p ++ sep ++ Str.join sep (q :: r)).cps.toList = _
    rw [PySem.Str.cps_append, PySem.Str.cps_append, Array.toList_append, Array.toList_append, join_joinL sep (q :: r)]
    rfl
theorem sp1_join (c : Nat) : ∀ ps : List (List Nat), ps ≠ [] → (∀ p ∈ ps, c ∉ p) → sp1 c (joinL [c] ps) = ps := by
  have run : ∀ (p : List Nat), c ∉ p → ∀ (t : List Nat) (q : List Nat) (qs : List (List Nat)), sp1 c t = q :: qs → sp1 c (p ++ t) = (p ++ q) :: qs := by
    intro p
    induction p with
    | nil => intro _ t q qs h; exact h
    | cons a p ih =>
      intro hp t q qs h
      rw [List.cons_append, sp1_cons_ne (fun e => hp (by rw [e]; exact List.mem_cons_self ..)), ih (fun hc => hp (List.mem_cons_of_mem _ hc)) t q qs h]
      rfl
  intro ps
  induction ps with
  | nil => intro h; exact absurd rfl h
  | cons p r ih =>
    intro _ hf
    cases r with
    | nil =>
      have := run p (hf p (List.mem_cons_self ..)) [] [] [] rfl
      simpa [joinL] using this
    | cons q r =>
      rw [joinL_cons2]
      have h1 : sp1 c ([c] ++ joinL [c] (q :: r)) = [] :: (q :: r) := by
        rw [List.singleton_append, sp1_cons_eq, ih (by simp) fun p' h' => hf p' (List.mem_cons_of_mem _ h')]
      rw [run p (hf p (List.mem_cons_self ..)) _ _ _ h1, List.append_nil]
theorem split1 (x : Str) (c : Nat) : (Txt.split x ⟨#[c]⟩).map (fun p => p.cps.toList) = sp1 c x.cps.toList := by
  have h1 := StrLaws.join_split x ⟨#[c]⟩
  have h2 := StrLaws.split_free x c
  have h3 := split_pos x ⟨#[c]⟩
  have h4 : x.cps.toList = joinL [c] ((Txt.split x ⟨#[c]⟩).map fun p => p.cps.toList) := by
    rw [← show (⟨#[c]⟩ : Str).cps.toList = [c] from rfl, ← join_joinL, h1]
  rw [h4, sp1_join]
  · intro e
    have : (Txt.split x ⟨#[c]⟩).length = 0 := by simpa using e
    omega
  · intro p hp
    obtain ⟨q, hq, e⟩ := List.mem_map.mp hp
    subst e
    exact h2 q hq
theorem replace1 (x z : Str) (c : Nat) : (Txt.replace x ⟨#[c]⟩ z).cps.toList = joinL z.cps.toList (sp1 c x.cps.toList) := by
  rw [StrLaws.replace_one, join_joinL, split1]
/-- the pair at a place -/
def Pair (l : List Nat) (k : Nat) : Prop := ∃ r, l.drop k = 13 :: 10 :: r
theorem at_pair (x : Str) (k : Nat) : StrLaws.At x ⟨#[13, 10]⟩ x.length k ↔ Pair x.cps.toList k := by
  unfold StrLaws.At Pair
  rw [StrLaws.subAt_eq]
  show k + 2 ≤ x.length ∧ ((x.cps.toList.drop k).take 2 == [13, 10]) = true ↔ _
  constructor
  · rintro ⟨_, h⟩
    have h' := eq_of_beq h
    match hd : x.cps.toList.drop k with
    | [] => rw [hd] at h'; cases h'
    | [a] => rw [hd] at h'; cases h'
    | a :: b :: r =>
      rw [hd] at h'
      simp only [List.take_succ_cons, List.take_zero, List.cons.injEq, and_true] at h'
      exact ⟨r, by rw [h'.1, h'.2]⟩
  · rintro ⟨r, h⟩
    have hl : (x.cps.toList.drop k).length = r.length + 2 := by rw [h]; rfl
    rw [List.length_drop] at hl
    have e : x.length = x.cps.toList.length := by simp [Str.length]
    refine ⟨by omega, ?_⟩
    rw [h]; rfl
theorem sp2_none : ∀ (l : List Nat), (∀ k, ¬ Pair l k) → sp2 l = [l]
  | [], _ => rfl
  | a :: r, h => by
    have ih := sp2_none r fun k ⟨t, e⟩ => h (k + 1) ⟨t, e⟩
    have hc : sp2 (a :: r) = consH a (sp2 r) := by
      by_cases ha : a = 13
      · subst ha
        refine sp2_ret ?_
        intro d r' e hd
        subst e hd
        exact h 0 ⟨r', rfl⟩
      · exact sp2_plain ha r
    rw [hc, ih]
    rfl
theorem sp2_first : ∀ (n : Nat) (l r : List Nat), (∀ k, k < n → ¬ Pair l k) → l.drop n = 13 :: 10 :: r → sp2 l = l.take n :: sp2 r
  | 0, l, r, _, e => by
    have e' : l = 13 :: 10 :: r := e
    rw [e', sp2_both]; rfl
  | n + 1, [], r, _, e => by simp at e
  | n + 1, a :: t, r, h, e => by
    have ih := sp2_first n t r (fun k hk ⟨u, eu⟩ => h (k + 1) (by omega) ⟨u, eu⟩) e
    have hc : sp2 (a :: t) = consH a (sp2 t) := by
      by_cases ha : a = 13
      · subst ha
        refine sp2_ret ?_
        intro d r' e1 hd
        subst e1 hd
        exact h 0 (by omega) ⟨r', rfl⟩
      · exact sp2_plain ha t
    rw [hc, ih]
    rfl
theorem pair_drop (l : List Nat) (a k : Nat) : Pair (l.drop a) k ↔ Pair l (a + k) := by
  unfold Pair
  rw [List.drop_drop]
theorem parts2 (x : Str) : ∀ (cuts : List Nat) (a f : Nat), StrLaws.ChainG x ⟨#[13, 10]⟩ x.length a cuts f → (∀ k, f ≤ k → ¬ StrLaws.At x ⟨#[13, 10]⟩ x.length k) →
    (StrLaws.partsFrom x 2 a cuts).map (fun p => p.cps.toList) = sp2 (x.cps.toList.drop a)
  | [], a, f, h, hn => by
    have e : f = a := h
    subst e
    rw [sp2_none]
    · show [(strSub x f x.length).cps.toList] = _
      rw [StrLaws.strSub_toList, List.take_of_length_le]
      simp [Str.length]
    · intro k hk
      exact hn (f + k) (by omega) ((at_pair x _).mpr ((pair_drop _ _ _).mp hk))
  | c :: r, a, f, ⟨hac, hat, hno, hr⟩, hn => by
    obtain ⟨t, ht⟩ := (at_pair x c).mp hat
    have ih := parts2 x r (c + 2) f hr hn
    have h1 : (x.cps.toList.drop a).drop (c - a) = 13 :: 10 :: t := by
      rw [List.drop_drop, show a + (c - a) = c from by omega, ht]
    have h2 : x.cps.toList.drop (c + 2) = t := by
      rw [← List.drop_drop, ht]; rfl
    rw [sp2_first (c - a) _ t ?_ h1]
    · show (strSub x a c).cps.toList :: (StrLaws.partsFrom x 2 (c + 2) r).map (fun p => p.cps.toList) = _
      rw [ih, h2, StrLaws.strSub_toList]
    · intro k hk hp
      exact hno (a + k) (by omega) (by omega) ((at_pair x _).mpr ((pair_drop _ _ _).mp hp))
theorem occ2 (x : Str) : (StrLaws.partsFrom x 2 0 (occurrences x ⟨#[13, 10]⟩ 0 x.length (x.length + 1))).map (fun p => p.cps.toList) = sp2 x.cps.toList := by
  obtain ⟨f, h, hn⟩ := StrLaws.occ_tight x ⟨#[13, 10]⟩ (by decide)
  exact parts2 x _ 0 f h hn
theorem occ2_empty {x : Str} (h : (occurrences x ⟨#[13, 10]⟩ 0 x.length (x.length + 1)).isEmpty = true) : sp2 x.cps.toList = [x.cps.toList] := by
  rw [← occ2 x, List.isEmpty_iff.mp h]
  show [(strSub x 0 x.length).cps.toList] = _
  rw [StrLaws.sub_whole]
theorem kind_low (x : Str) : 1 ≤ Builtin.Str.strKind x := by
  unfold Builtin.Str.strKind
  split
  · omega
  · split <;> omega
theorem split2 (x : Str) : (Txt.split x ⟨#[13, 10]⟩).map (fun p => p.cps.toList) = sp2 x.cps.toList := by
  unfold Txt.split
  split
  · rename_i hc
    rw [Bool.or_eq_true, decide_eq_true_eq, decide_eq_true_eq] at hc
    have hk := kind_low x
    have h1 : Builtin.Str.strKind (⟨#[13, 10]⟩ : Str) = 1 := by decide +kernel
    have h2 : x.length < 2 := by
      rcases hc with h | h
      · exact h
      · omega
    rw [sp2_none]
    · rfl
    · intro k hk
      have := ((at_pair x k).mpr hk).1
      have e : (⟨#[13, 10]⟩ : Str).length = 2 := rfl
      omega
  · split
    · rename_i he
      rw [occ2_empty he]; rfl
    · rw [StrLaws.partsBetween_eq]
      exact occ2 x
theorem replace2 (x z : Str) : (Txt.replace x ⟨#[13, 10]⟩ z).cps.toList = joinL z.cps.toList (sp2 x.cps.toList) := by
  unfold Txt.replace
  rw [show ((⟨#[13, 10]⟩ : Str).length == 0) = false from rfl, Bool.false_and, Bool.or_false]
  split
  · rename_i he
    rw [occ2_empty he]; rfl
  · rw [StrLaws.glued_eq_join, join_joinL, StrLaws.partsBetween_eq]
    have := occ2 x
    rw [← this]; rfl
/-- the dots of a row -/
def dots : List Nat → Int
  | [] => 0
  | c :: r => (if c = 46 then 1 else 0) + dots r
theorem dots_cons (c : Nat) (r : List Nat) : dots (c :: r) = (if c = 46 then 1 else 0) + dots r := rfl
theorem fold_dots : ∀ (p : List Nat) (a : Int), p.foldl dotS a = a + dots p
  | [], a => by simp [dots]
  | c :: r, a => by
    rw [List.foldl_cons, fold_dots r]
    rw [dots_cons]
    unfold dotS
    split <;> omega
theorem cnt_dots : ∀ p : List Nat, cnt 46 p = dots p
  | [] => rfl
  | c :: r => by rw [cnt_cons, cnt_dots r]; rfl
def opens (T : Int) : List Nat → Int
  | [] => 0
  | c :: _ => if c = 46 then T else 0
theorem opens_cons (T : Int) (c : Nat) (r : List Nat) : opens T (c :: r) = if c = 46 then T else 0 := rfl
theorem slice_opens (row : Str) (T : Int) : (if Txt.slice row none (some 1) = Str.ofString "." then T else 0) = opens T row.cps.toList := by
  have hdot : Str.ofString "." = ⟨#[46]⟩ := by decide +kernel
  rw [hdot]
  cases hr : row.cps.toList with
  | nil =>
    have h1 := Txt.slice_le row none (some 1)
    have h2 : row.length = 0 := by
      have : row.length = row.cps.toList.length := by simp [Str.length]
      rw [this, hr]; rfl
    rw [if_neg]
    · rfl
    · intro e
      rw [e] at h1
      have : (⟨#[46]⟩ : Str).length = 1 := rfl
      omega
  | cons c r =>
    have h1 : (1 : Int) ≤ row.cps.toList.length := by rw [hr, List.length_cons]; omega
    have h2 := eq_of_beq (slice_closes_to (x := row) (j := 1) ⟨by omega, h1⟩)
    rw [h2, hr]
    show (if (⟨#[c]⟩ : Str) = ⟨#[46]⟩ then T else 0) = if c = 46 then T else 0
    by_cases h6 : c = 46
    · rw [h6, if_pos rfl, if_pos rfl]
    · rw [if_neg h6, if_neg (fun e => h6 (by simpa using e))]
theorem told_eq (T : Int) (row : Str) : toldT T row = dots row.cps.toList + opens T row.cps.toList := by
  unfold toldT
  rw [slice_opens, show Str.ofString "." = ⟨#[46]⟩ from by decide +kernel, count_cnt, cnt_dots]
theorem toldF_lines (x : Str) (T : Int) : toldF x T = (lines x.cps.toList).map fun p => dots p + opens T p := by
  unfold toldF
  rw [show Str.ofString "\x0d\n" = ⟨#[13, 10]⟩ from by decide +kernel, show Str.ofString "\n" = ⟨#[10]⟩ from by decide +kernel, show Str.ofString "\x0d" = ⟨#[13]⟩ from by decide +kernel]
  have e : ∀ ps : List Str, ps.map (toldT T) = (ps.map fun p => p.cps.toList).map fun p => dots p + opens T p := by
    intro ps
    rw [List.map_map]
    exact List.map_congr_left fun p _ => told_eq T p
  rw [e, split1, replace1, replace2]
  exact congrArg _ (feed_lines x.cps.toList)
theorem rowsT_sp2 (x : Str) : rowsT x = (sp2 x.cps.toList).map dots := by
  unfold rowsT
  rw [show Str.ofString "\x0d\n" = ⟨#[13, 10]⟩ from by decide +kernel, ← split2, List.map_map]
  refine List.map_congr_left fun p _ => ?_
  show p.cps.toList.foldl dotS 0 = dots p.cps.toList
  rw [fold_dots]; omega
theorem dots_st (p : List Nat) : dots (st p) = dots p + opens 1 p := by
  cases p with
  | nil => rfl
  | cons c r =>
    show dots (if c = 46 then 46 :: 46 :: r else c :: r) = _
    by_cases h : c = 46
    · rw [if_pos h]; simp only [dots, opens, h, if_true]; omega
    · rw [if_neg h]; simp only [opens, if_neg h]; omega
theorem dots_st2 (p : List Nat) : dots (st (st p)) = dots p + opens 2 p := by
  rw [dots_st, dots_st]
  cases p with
  | nil => rfl
  | cons c r =>
    by_cases h : c = 46
    · simp only [st, opens, h, if_true]; omega
    · simp only [st, opens, h, if_false]; omega
theorem rows_told (l : List Int) (T : Int) (hT : T = 1 ∨ T = 2) : rowsT (sentF l T) = toldF (textF l) T := by
  rw [rowsT_sp2, toldF_lines]
  rcases hT with rfl | rfl
  · show (sp2 (quoteL (textF l).cps.toList)).map dots = _
    rw [sp2_quote, List.map_map]
    exact List.map_congr_left fun p _ => dots_st p
  · show (sp2 (quoteL (quoteL (textF l).cps.toList))).map dots = _
    rw [sp2_quote, lines_quote, List.map_map, List.map_map]
    exact List.map_congr_left fun p _ => dots_st2 p
theorem dots_nn : ∀ p : List Nat, 0 ≤ dots p
  | [] => by simp [dots]
  | c :: r => by
    have := dots_nn r
    unfold dots
    split <;> omega
theorem opens_nn {T : Int} (h : 0 ≤ T) (p : List Nat) : 0 ≤ opens T p := by
  cases p with
  | nil => simp [opens]
  | cons c r => unfold opens; split <;> omega
/-- three for a dot, one for an end -/
def wt : List Nat → Int
  | [] => 0
  | c :: r => (if c = 46 then 3 else if c = 10 ∨ c = 13 then 1 else 0) + wt r
theorem wt_cons (c : Nat) (r : List Nat) : wt (c :: r) = (if c = 46 then 3 else if c = 10 ∨ c = 13 then 1 else 0) + wt r := rfl
theorem wt_app : ∀ a b : List Nat, wt (a ++ b) = wt a + wt b
  | [], b => by simp [wt]
  | c :: r, b => by rw [List.cons_append, wt_cons, wt_cons, wt_app r b]; omega
theorem wt_le : ∀ a : List Nat, wt a ≤ 3 * a.length
  | [] => by simp [wt]
  | c :: r => by
    have := wt_le r
    unfold wt
    rw [List.length_cons]
    split
    · omega
    · split <;> omega
theorem opens_le {T : Int} (h0 : 0 ≤ T) (h : T ≤ 2) (p : List Nat) : dots p + opens T p ≤ 3 * dots p := by
  cases p with
  | nil => simp [opens, dots]
  | cons c r =>
    have := dots_nn r
    rw [opens_cons, dots_cons]
    split <;> omega
def fsum : List (List Nat) → Int
  | [] => 0
  | p :: r => dots p + fsum r
theorem fsum_consH (c : Nat) (ps : List (List Nat)) : fsum (consH c ps) = (if c = 46 then 1 else 0) + fsum ps := by
  cases ps with
  | nil => simp [consH, fsum, dots]
  | cons p r => simp only [consH, fsum, dots]; omega
theorem len_consH (c : Nat) {ps : List (List Nat)} (h : ps ≠ []) : (consH c ps).length = ps.length := by
  cases ps with
  | nil => exact absurd rfl h
  | cons p r => rfl
theorem lines_dots (l : List Nat) : fsum (lines l) = dots l := by
  refine byEnds (P := fun l => fsum (lines l) = dots l) l (by simp [lines, fsum]) ?_ ?_ ?_ ?_
  · intro r ih; rw [lines_both]; simp [fsum, dots, ih]
  · intro r ih; rw [lines_ten]; simp [fsum, dots, ih]
  · intro r h ih; rw [lines_ret h]; simp [fsum, dots, ih]
  · intro c r h1 h2 ih; rw [lines_plain h1 h2, fsum_consH, ih]; rfl
theorem lines_wt (l : List Nat) : 3 * fsum (lines l) + (lines l).length ≤ wt l + 1 := by
  refine byEnds (P := fun l => 3 * fsum (lines l) + (lines l).length ≤ wt l + 1) l (by simp [lines, fsum, dots, wt]) ?_ ?_ ?_ ?_
  · intro r ih
    rw [lines_both]
    simp +decide only [fsum, dots, wt, List.length_cons, if_false, if_true]
    omega
  · intro r ih
    rw [lines_ten]
    simp +decide only [fsum, dots, wt, List.length_cons, if_false, if_true]
    omega
  · intro r h ih
    rw [lines_ret h]
    simp +decide only [fsum, dots, wt, List.length_cons, if_false, if_true]
    omega
  · intro c r h1 h2 ih
    rw [lines_plain h1 h2, fsum_consH, len_consH c (lines_ne r)]
    unfold wt
    split
    · omega
    · rw [if_neg (by omega)]; omega
theorem sum_bound {T : Int} (h0 : 0 ≤ T) (h : T ≤ 2) : ∀ ps : List (List Nat), fsum ps ≤ (ps.map fun p => dots p + opens T p).sum ∧ (ps.map fun p => dots p + opens T p).sum ≤ 3 * fsum ps
  | [] => by simp [fsum]
  | p :: r => by
    have ih := sum_bound h0 h r
    have h1 := opens_le h0 h p
    have h2 := opens_nn h0 p
    rw [List.map_cons, List.sum_cons]
    unfold fsum
    omega
theorem text_list (l : List Int) : (textF l).cps.toList = (signsT l).cps.toList ++ [46, 10, 46] := by
  unfold textF
  rw [PySem.Str.cps_append, Array.toList_append, show Str.ofString ".\n." = ⟨#[46, 10, 46]⟩ from by decide +kernel]
theorem dots_app : ∀ a b : List Nat, dots (a ++ b) = dots a + dots b
  | [], b => by simp [dots]
  | c :: r, b => by rw [List.cons_append, dots_cons, dots_cons, dots_app r b]; omega
theorem goodness (l : List Int) (hl : l.length ≤ 5) (T : Int) (hT : T = 1 ∨ T = 2) : Goodness l T (toldF (textF l) T) := by
  have h0 : 0 ≤ T := by omega
  have h2 : T ≤ 2 := by omega
  have e := toldF_lines (textF l) T
  have hb := sum_bound h0 h2 (lines (textF l).cps.toList)
  have hw := lines_wt (textF l).cps.toList
  have hd := lines_dots (textF l).cps.toList
  have hlen : (signsT l).cps.toList.length = (signsT l).length := by simp [Str.length]
  have hs := signsT_len l
  have hw2 : wt (textF l).cps.toList ≤ 37 := by
    rw [text_list, wt_app]
    have := wt_le (signsT l).cps.toList
    have e3 : wt [46, 10, 46] = 7 := by decide +kernel
    omega
  have hd2 : 0 < dots (textF l).cps.toList := by
    rw [text_list, dots_app]
    have := dots_nn (signsT l).cps.toList
    have e3 : dots [46, 10, 46] = 2 := by decide +kernel
    omega
  refine good_of ?_ ?_ ?_ ?_ (rows_told l T hT)
  · intro k hk
    rw [e] at hk
    obtain ⟨p, _, ep⟩ := List.mem_map.mp hk
    have := dots_nn p
    have := opens_nn h0 p
    omega
  · rw [e]
    simpa using lines_ne (textF l).cps.toList
  · rw [e]; omega
  · rw [e, List.length_map]; omega
end Mine
end
section
open PySem PySem.W PyProof.Rows
namespace Mine
local macro_rules | `(tactic| walk_at "CompSrc") => `(tactic| (k_here; (with_reducible rename IntsAre _ _ => iA9); kct_src; (try k_fmods); (try kcf_lens); k_dflt (refine LCg.CompSrc.ledger (by rfl) (by k_asm) (by k_asm) (by k_mem) (by kcf_size) ?_; intro g'; (refine' kct_list sign (by first | assumption | l_ints) (fun k' t' I' oI' C' oC' D' m' ys' h' tk' E' hk' hC' hx' F' N' off' ne' hMark' => ?_) ?_); (all_goals (try (simp only [LCg.Off3, and_true] at off'))); kcf_last)))
local macro_rules | `(tactic| walk_at "call builtin:str.join") => `(tactic| (k_here; (with_reducible show wpAny _ _ (call (Value.builtin "str.join") [Value.str _ _, Value.ref _]) _ _ _); (with_reducible rename CarriedAll _ (List.map _ _) => ktC); refine my_join (by first | assumption | is_list | exact News.isList (by k_asm) (by k_mem)) ktC (by simp only [List.length_map, List.length_take]; omega) ?_; intro t' k' r' er' hr'; (try dsimp only)))
local macro_rules | `(tactic| walk_at "call ref") => `(tactic| (k_here; (with_reducible show wpAny _ _ (call (Value.ref 125) _) _ _ _); refine Stop.out ?_))
local macro_rules | `(tactic| walk_at "call ref") => `(tactic| (k_here; (with_reducible show wpAny _ _ (call (Value.ref 104) _) _ _ _); refine Stop.out ?_))
local macro_rules | `(tactic| walk_at "call ref") => `(tactic| (k_here; (with_reducible show wpAny _ _ (call (Value.ref 48) _) _ _ _); k_dflt (refine' quote_k ?kx ?k1 ?k2 ?k3 ?k4 ?k5 ?_; (case k1 => k_asm); (case k2 => k_asm); (case k3 => k_asm); (case k4 => k_asm); (case k5 => k_asm); (case kx => omega)); intro t9 h9 tk9 y9 ey9 hy9 F9 N9; (try dsimp only); (try k_fold)))
local macro_rules | `(tactic| walk_at "call ref") => `(tactic| (k_here; (with_reducible show wpAny _ _ (call (Value.ref 118) _) _ _ _); k_dflt (refine' rests_k ?ka ?kb ?kc ?kd ?k1 ?k2 ?k3 ?k4 ?k5 ?_; (case k1 => k_asm); (case k2 => k_asm); (case k3 => k_asm); (case k4 => k_asm); (case k5 => k_asm); (case ka => assumption); (case kb => assumption); (case kc => assumption); (case kd => assumption)); intro t9 h9 tk9 F9 N9; (try dsimp only); (try k_fold)))
local macro_rules | `(tactic| walk_at "call ref") => `(tactic| (k_here; (with_reducible show wpAny _ _ (call (Value.ref 111) _) _ _ _); k_dflt (refine' back_k ?kx ?k1 ?k2 ?k3 ?k4 ?k5 ?_; (case k1 => k_asm); (case k2 => k_asm); (case k3 => k_asm); (case k4 => k_asm); (case k5 => k_asm); (case kx => assumption)); intro D9 ys9 n9 h9 tk9 hI9 F9 N9; (try dsimp only); (try k_fold)))
set_option maxRecDepth 100000 in
set_option maxHeartbeats 8000000 in
theorem ww : PySem.Challenge.rw_pg0024_01.Holds := by
  w_top off
  k_with "call ref" => k_call_by "_law_sign" sign
  k_with "tree" => simp only [sign]
  refine hd ?_
  (k_go0; (all_goals try k_fold); k_steps)
  · unfold Stop
    generalize hT : 1 + (List.map (fun k' => Int.fmod k' (10 ^ Int.toNat 6)) (List.take 5 ‹List Int›)).sum.fmod 2 = T at *
    have hT2 := fmod2 (List.map (fun k' => Int.fmod k' (10 ^ Int.toNat 6)) (List.take 5 ‹List Int›)).sum
    rw [hT] at hT2
    have hl3 : (Str.ofString ".\n.").length = 3 := by decide +kernel
    have G := goodness (List.map (fun k' => Int.fmod k' (10 ^ Int.toNat 6)) (List.take 5 ‹List Int›)) (by simp only [List.length_map, List.length_take]; omega) T hT2
    rcases hT2 with rfl | rfl
    · k_dflt (refine' told_k ?kx ?k1 ?k2 ?k3 ?k4 ?k5 ?_; (case k1 => k_asm); (case k2 => k_asm); (case k3 => k_asm); (case k4 => k_asm); (case k5 => k_asm); (case kx => omega))
      intro D9 ys9 n9 h9 tk9 ks eks hI9 F9 N9
      try dsimp only
      try k_fold
      have er := ‹_ = signsT _›
      rw [show toldF (textF _) 1 = ks from by rw [eks, er]; rfl] at G
      obtain ⟨g1, g2, g3, g4, g5, g6, g7, g8, gs0, gs1, g9, g10⟩ := G
      k_steps
      · unfold Stop
        have ey := ‹_ = quoteF _›
        k_dflt (refine' table_k ks ?ke ?km ?kx ?k1 ?k2 ?k3 ?k4 ?k5 ?_; (case k1 => k_asm); (case k2 => k_asm); (case k3 => k_asm); (case k4 => k_asm); (case k5 => k_asm); (case kx => omega); (case km => exact g2); (case ke => (rw [← g1, ey, er]; rfl)))
        intro D8 ta tb tc td n8 h8 tk8 F8 N8
        try dsimp only
        try k_fold
        k_steps
    · k_dflt (refine' told_k ?kx ?k1 ?k2 ?k3 ?k4 ?k5 ?_; (case k1 => k_asm); (case k2 => k_asm); (case k3 => k_asm); (case k4 => k_asm); (case k5 => k_asm); (case kx => omega))
      intro D9 ys9 n9 h9 tk9 ks eks hI9 F9 N9
      try dsimp only
      try k_fold
      have er := ‹_ = signsT _›
      rw [show toldF (textF _) 2 = ks from by rw [eks, er]; rfl] at G
      obtain ⟨g1, g2, g3, g4, g5, g6, g7, g8, gs0, gs1, g9, g10⟩ := G
      k_steps
      · unfold Stop
        k_dflt (refine' table_k ks ?ke ?km ?kx ?k1 ?k2 ?k3 ?k4 ?k5 ?_; (case k1 => k_asm); (case k2 => k_asm); (case k3 => k_asm); (case k4 => k_asm); (case k5 => k_asm); (case kx => omega); (case km => exact g2); (case ke => (rw [← g1]; subst_vars; rfl)))
        intro D8 ta tb tc td n8 h8 tk8 F8 N8
        try dsimp only
        try k_fold
        k_steps
end Mine
end
theorem PySem.Challenge.cw_pg0024_01_holds : PySem.Challenge.rw_pg0024_01.Holds :=
  Mine.ww
