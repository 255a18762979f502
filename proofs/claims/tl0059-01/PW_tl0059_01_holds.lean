import PyProof.Rows.All
import Wide.All
import OpenK.AllK
import Wide.FinOn
import Open.Tops
import Lean
import PySem.Challenge.RW_tl0059_01
set_option maxRecDepth 1000000
set_option Elab.async false
set_option linter.unusedVariables false
set_option compiler.extract_closed false
-- MH
namespace Mine
open PySem PySem.W PyProof.Rows PySem.Spec PySem.Calls
section
variable {prog : Program} {w : World} {A : Around} {E : Value → Shared → Prop} {h : Heap} {g : Array GenState} {d : Drawn} {t : Nat} {os : OsState} {x : Str} {u : Tok}

theorem gi_lookup : typeLookup (.type "str") "__getitem__" = pure (some (.builtin "str.__getitem__")) := by rw [typeLookup_type, builtinLookup_eq_fast]; kernel_rfl
theorem gi_type : typeOf (.builtin "str.__getitem__") = pure (.type "wrapper_descriptor") := by show builtinType _ = _; rw [builtinType_eq_fast]; kernel_rfl
theorem wd_get : Slot "wrapper_descriptor" "__get__" "wrapper_descriptor.__get__" :=
  .of (owner := "wrapper_descriptor") (n := "__get__") (by rw [typeLookup_type, builtinLookup_eq_fast]; kernel_rfl) (by decide +kernel) (by decide +kernel) (by decide +kernel)
    (by first | exact .inl (by decide +kernel) | exact .inr (by decide +kernel)) (by rw [isSubtype_type]; kernel_rfl)
theorem wd_entry : entryFor table "wrapper_descriptor.__get__" = some Builtin.«wrapper_descriptor.__get__» := entryFor_of_tree (by kernel_rfl)
theorem wd_args (a b c : Value) : argsOk "wrapper_descriptor.__get__" ⟨[a, b, c], []⟩ := by unfold argsOk; kernel_rfl
theorem wd_set : typeLookup (.type "wrapper_descriptor") "__set__" = pure none := by rw [typeLookup_type, builtinLookup_eq_fast]; kernel_rfl
theorem wd_del : typeLookup (.type "wrapper_descriptor") "__delete__" = pure none := by rw [typeLookup_type, builtinLookup_eq_fast]; kernel_rfl
theorem gi_owner : (".".intercalate ("str.__getitem__".cutAt '.').dropLast) = "str" := by decide +kernel
theorem gi_sub : isSubtype (.type "str") (.type (".".intercalate ("str.__getitem__".cutAt '.').dropLast)) = pure true := by
  rw [gi_owner, isSubtype_type]; kernel_rfl

noncomputable def giObj (x : Str) (u : Tok) : Obj := { cls := .type "method-wrapper", data := .fields #[.builtin "str.__getitem__", .str x u] }

set_option maxHeartbeats 1000000 in
theorem gi_get {R : Result → Shared → Prop} (hq : R (.ok (.ret (.ref h.objs.size))) ⟨h.push (giObj x u), g, d, t, os⟩) :
    codeAny (model prog w) A (.call (.builtin "wrapper_descriptor.__get__") ⟨[.builtin "str.__getitem__", .str x u, .type "str"], []⟩) R ⟨h, g, d, t, os⟩ := by
  have hT : (⟨h, g, d, t, os⟩ : Shared).TypeIs (.str x u) "str" := rfl
  have hT5 : (⟨h, g, d, t, os⟩ : Shared).TypeIs (.builtin "str.__getitem__") "wrapper_descriptor" := gi_type
  have f8 := gi_sub
  refine codeAny_call_builtin wd_get.plain wd_entry (wd_get.check _ _ _ _ _ _ _ _ hT5 (wd_args _ _ _) ?_)
  repeat (any_goals (first | assumption | wp_step))

set_option maxHeartbeats 1000000 in
theorem gi_entry {tk : Tok} {Q : Fin → Shared → Prop} (hq : Q (.done (.ret (.ref h.objs.size))) ⟨h.push (giObj x u), g, d, t, os⟩) :
    wpAny (model prog w) A (Builtin.«object.__getattribute__» ⟨[.str x u, .str "__getitem__" tk], []⟩) Q E ⟨h, g, d, t, os⟩ := by
  have hT : (⟨h, g, d, t, os⟩ : Shared).TypeIs (.str x u) "str" := rfl
  have hT5 : (⟨h, g, d, t, os⟩ : Shared).TypeIs (.builtin "str.__getitem__") "wrapper_descriptor" := gi_type
  have f4 := gi_lookup
  have f5 := gi_type
  have f6 := wd_get.lookup
  have f7 := wd_set
  have f8 := wd_del
  repeat (any_goals (first | assumption | wp_step))
  refine gi_get ?_
  repeat (any_goals (first | assumption | wp_step))

theorem gi_call {tk : Tok} {R : Result → Shared → Prop} (hq : R (.ok (.ret (.ref h.objs.size))) ⟨h.push (giObj x u), g, d, t, os⟩) :
    codeAny (model prog w) A (.call (.builtin "object.__getattribute__") ⟨[.str x u, .str "__getitem__" tk], []⟩) R ⟨h, g, d, t, os⟩ :=
  codeAny_call_builtin F.slot_str_getattribute.plain F.entry_object_getattribute (F.slot_str_getattribute.check _ _ _ _ _ _ _ _ (show (⟨h, g, d, t, os⟩ : Shared).TypeIs (.str x u) "str" from rfl) (F.args_object_getattribute_2 _ _) (gi_entry hq))

theorem gi_by {tk : Tok} {Q : Value → Shared → Prop} (hq : Q (.ref h.objs.size) ⟨h.push (giObj x u), g, d, t, os⟩) :
    wpAny (model prog w) A (getAttrBy (.str x u) (.str "__getitem__" tk) false) Q E ⟨h, g, d, t, os⟩ := by
  have hT : (⟨h, g, d, t, os⟩ : Shared).TypeIs (.str x u) "str" := rfl
  have f2 := F.slot_str_getattribute.lookup
  have f3 := F.slot_str_getattribute.bind (.str x u)
  repeat (any_goals (first | assumption | wp_step))
  refine gi_call ?_
  repeat (any_goals (first | assumption | wp_step))

theorem ha_kind : builtinKind "hasattr" = none := by decide +kernel
theorem ha_plain : plainId "hasattr" = true := by decide +kernel
theorem ha_entry : entryFor table "hasattr" = some Builtin.«hasattr» := entryFor_of_tree (by kernel_rfl)
theorem ha_args (a b : Value) : argsOk "hasattr" ⟨[a, b], []⟩ := by unfold argsOk; kernel_rfl

theorem gi_opt {tk : Tok} {Q : Option Value → Shared → Prop} (hq : Q (some (.ref h.objs.size)) ⟨h.push (giObj x u), g, d, t, os⟩) :
    wpAny (model prog w) A (getAttrBy? (.str x u) (.str "__getitem__" tk)) Q E ⟨h, g, d, t, os⟩ := by
  unfold getAttrBy?
  exact wpAny_bind (wpAny_attempt (gi_by (wpAny_pure hq)))

theorem hasattr_gi {tk : Tok} {Q : Value → Shared → Prop} (hq : Q (.bool true) ⟨h.push (giObj x u), g, d, t, os⟩) :
    wpAny (model prog w) A (call (.builtin "hasattr") [.str x u, .str (Str.ofString "__getitem__") tk]) Q E ⟨h, g, d, t, os⟩ := by
  refine call_function_entry ha_kind ha_plain ha_entry (ha_args _ _) ?_
  unfold Builtin.«hasattr»
  refine wpAny_bind (wpAny_of_eq (a := [.str x u, .str "__getitem__" tk]) (by first | rfl | kernel_rfl) ?_)
  dsimp only
  refine wpAny_bind (wpAny_of_eq (a := ()) (by first | rfl | kernel_rfl) ?_)
  rw [show (Value.str x u == Value.builtin "__main__.__loader__#opaque") = false from rfl]
  simp only [Bool.false_eq_true, if_false]
  refine wpAny_bind (wpAny_of_eq (a := .type "str") rfl ?_)
  dsimp only
  refine wpAny_bind (wpAny_of_eq (a := some (Str.ofString "__getitem__")) rfl ?_)
  dsimp only
  rw [gi_lookup]
  refine wpAny_bind (wpAny_pure ?_)
  dsimp only
  rw [F.slot_str_getattribute.lookup]
  refine wpAny_bind (wpAny_pure ?_)
  rw [show (withoutEnding? "str.__getitem__" "#data").isSome = false from by decide +kernel]
  simp only [Bool.false_and, Bool.false_eq_true, if_false]
  refine wpAny_bind (wpAny_of_eq (a := (0 : Nat)) rfl ?_)
  rw [if_neg (by decide)]
  refine wpAny_bind (gi_opt ?_)
  exact wpAny_pure ⟨_, rfl, hq⟩
end
end Mine
-- MF
namespace Mine
open PySem PySem.W PyProof.Rows PySem.Spec PySem.Calls
theorem orN (a b : Nat) : Builtin.bitOr (a : Int) (b : Int) = ((a ||| b : Nat) : Int) := by
  show Builtin.bitNot (Builtin.bitAnd (Builtin.bitNot a) (Builtin.bitNot b)) = _
  have ha : ¬ 0 ≤ Builtin.bitNot (a : Int) := by unfold Builtin.bitNot; omega
  have hb : ¬ 0 ≤ Builtin.bitNot (b : Int) := by unfold Builtin.bitNot; omega
  rw [bitAnd_nn ha hb]
  have na : (Builtin.bitNot (Builtin.bitNot (a : Int))).toNat = a := by unfold Builtin.bitNot; omega
  have nb : (Builtin.bitNot (Builtin.bitNot (b : Int))).toNat = b := by unfold Builtin.bitNot; omega
  rw [na, nb]
  unfold Builtin.bitNot; omega
/-- the number with its figures, over the naturals -/
noncomputable def fN (z : Nat) : Nat → Nat → Nat
  | 0, h => h
  | k + 1, h => fN z k h ||| (fN z k h * 2 ^ z)
noncomputable def fAll (ns : List Nat) : Nat := ns.foldl (fun h z => fN z (40 / z) h) 1
noncomputable def figOf (ns : List Nat) : List Int := (List.range 41).map fun k => ((fAll ns / 2 ^ k % 2 : Nat) : Int)
theorem fN_lt (z k h n : Nat) (hh : h < 2 ^ n) : fN z k h < 2 ^ (n + z * k) := by
  induction k with
  | zero => simpa [fN] using hh
  | succ k ih =>
    have e : n + z * (k + 1) = (n + z * k) + z := by rw [Nat.mul_succ]; omega
    have h1 : fN z k h < 2 ^ (n + z * (k + 1)) := Nat.lt_of_lt_of_le ih (Nat.pow_le_pow_right (by decide) (by omega))
    have h2 : fN z k h * 2 ^ z < 2 ^ (n + z * (k + 1)) := by
      rw [e, Nat.pow_add]
      exact Nat.mul_lt_mul_of_pos_right ih (Nat.pow_pos (by decide))
    exact Nat.or_lt_two_pow h1 h2
theorem fAll_take {ns : List Nat} {i x : Nat} (h : ns[i]? = some x) : fAll (ns.take (i + 1)) = fN x (40 / x) (fAll (ns.take i)) := by
  unfold fAll
  rw [List.take_add_one, h, List.foldl_append]
  rfl
theorem fAll_lt (ns : List Nat) (i : Nat) (hi : i ≤ ns.length) : fAll (ns.take i) < 2 ^ (1 + 40 * i) := by
  induction i with
  | zero => simp [fAll]
  | succ i ih =>
    have hx : ns[i]? = some ns[i] := List.getElem?_eq_getElem (by omega)
    rw [fAll_take hx]
    refine Nat.lt_of_lt_of_le (fN_lt _ _ _ _ (ih (by omega))) (Nat.pow_le_pow_right (by decide) ?_)
    have := Nat.mul_div_le 40 ns[i]
    omega
theorem shrN (a k : Nat) : Builtin.bitAnd ((a : Int).fdiv (2 ^ (k : Int).toNat)) 1 = ((a / 2 ^ k % 2 : Nat) : Int) := by
  have e : (a : Int).fdiv (2 ^ (k : Int).toNat) = ((a / 2 ^ k : Nat) : Int) := by
    rw [Int.toNat_natCast, Int.fdiv_eq_ediv_of_nonneg _ (Int.pow_nonneg (by decide))]
    simp
  rw [e, bitAnd_pp (Int.natCast_nonneg _) (by decide), Int.toNat_natCast]
  show (((a / 2 ^ k) &&& 1 : Nat) : Int) = _
  rw [Nat.and_one_is_mod]
end Mine
-- MLd
namespace Mine
open PySem PySem.W PyProof.Rows PySem.Spec PySem.Calls
theorem foldl_app (k : Nat) (a acc : Array Nat) : ((List.replicate k a).foldl (· ++ ·) acc).toList = acc.toList ++ (List.replicate k a.toList).flatten := by
  induction k generalizing acc with
  | zero => simp
  | succ k ih => rw [List.replicate_succ, List.foldl_cons, ih]; simp [List.replicate_succ]
theorem mul_len (z : Nat) : (Txt.mul (Str.ofString " ") (z : Int)).cps.toList = List.replicate z 32 := by
  have e : (Str.ofString " ").cps = #[32] := by decide +kernel
  unfold Txt.mul
  by_cases h0 : (z : Int) < 1
  · rw [if_pos h0, show z = 0 by omega]; rfl
  · rw [if_neg h0]
    by_cases h1 : ((z : Int) == 1 || (Str.ofString " ").length == 0) = true
    · rw [if_pos h1, e]
      have : z = 1 := by
        rcases Bool.or_eq_true_iff.mp h1 with h | h
        · have := beq_iff_eq.mp h; omega
        · exact absurd h (by decide +kernel)
      rw [this]; rfl
    · rw [if_neg h1]
      show ((List.replicate (z : Int).toNat (Str.ofString " ").cps).foldl (· ++ ·) #[]).toList = _
      rw [foldl_app, e, Int.toNat_natCast]
      show [] ++ (List.replicate z [32]).flatten = _
      rw [List.nil_append]
      clear h0 h1
      induction z with
      | zero => rfl
      | succ z ih => rw [List.replicate_succ, List.flatten_cons, ih, List.replicate_succ]; rfl
theorem cpsA (a b : Str) : (a ++ b).cps.toList = a.cps.toList ++ b.cps.toList := by
  show (a.cps ++ b.cps).toList = _
  simp
theorem sjoin_cps : ∀ ys : List Str, (Str.join (Str.ofString "") ys).cps.toList = ys.flatMap fun y => y.cps.toList
  | [] => rfl
  | [x] => by simp [Str.join]
  | x :: y :: r => by
    have e : (Str.ofString "").cps.toList = [] := by decide +kernel
    show (x ++ Str.ofString "" ++ Str.join (Str.ofString "") (y :: r)).cps.toList = _
    rw [cpsA, cpsA, e, List.append_nil, sjoin_cps (y :: r)]
    rfl
theorem join_cps (ys : List Str) : (Txt.join (Str.ofString "") ys).cps.toList = ys.flatMap fun y => y.cps.toList := by
  unfold Txt.join
  rw [StrLaws.glued_eq_join, sjoin_cps]
theorem len_cps (a : Str) : a.length = a.cps.toList.length := by
  show a.cps.size = _
  simp
/-- a lead's blanks and tabs, and the text of it -/
noncomputable def leadW (rs : List Nat) (bh : Nat) : List Nat := rs.flatMap (fun r => List.replicate r 32 ++ [9]) ++ List.replicate bh 32
theorem tab_cps : (Str.ofString "\t").cps.toList = [9] := by decide +kernel
theorem x_cps : (Str.ofString "x \t").cps.toList = [120, 32, 9] := by decide +kernel
theorem runs_cps (rs : List Nat) : (Txt.join (Str.ofString "") (rs.map fun r : Nat => Txt.mul (Str.ofString " ") (r : Int) ++ Str.ofString "\t")).cps.toList = rs.flatMap fun r => List.replicate r 32 ++ [9] := by
  rw [join_cps]
  induction rs with
  | nil => rfl
  | cons a r ih => rw [List.map_cons, List.flatMap_cons, List.flatMap_cons, ih, cpsA, mul_len, tab_cps]
theorem flat_len (rs : List Nat) (hb : ∀ a ∈ rs, a ≤ 40) : (rs.flatMap fun r => List.replicate r 32 ++ [9]).length ≤ 41 * rs.length := by
  induction rs with
  | nil => exact Nat.le_refl _
  | cons a r ih =>
    rw [List.flatMap_cons, List.length_append, List.length_append, List.length_replicate, List.length_cons]
    have h1 := hb a (.head _)
    have h2 := ih fun b h => hb b (.tail _ h)
    simp only [List.length_cons, List.length_nil]
    omega
theorem sum_len (rs : List Nat) (hb : ∀ a ∈ rs, a ≤ 40) : ((rs.map fun r : Nat => Txt.mul (Str.ofString " ") (r : Int) ++ Str.ofString "\t").map (·.length)).sum ≤ 41 * rs.length := by
  induction rs with
  | nil => exact Nat.le_refl _
  | cons a r ih =>
    rw [List.map_cons, List.map_cons, List.sum_cons, List.length_cons, len_cps, cpsA, mul_len, tab_cps]
    have h1 := hb a (.head _)
    have h2 := ih fun b h => hb b (.tail _ h)
    simp only [List.length_append, List.length_replicate, List.length_cons, List.length_nil]
    omega
theorem leadW_in (rs : List Nat) (bh : Nat) : ∀ c ∈ leadW rs bh, c = 32 ∨ c = 9 := by
  intro c h
  unfold leadW at h
  rcases List.mem_append.mp h with h | h
  · obtain ⟨r, _, h⟩ := List.mem_flatMap.mp h
    rcases List.mem_append.mp h with h | h
    · exact .inl (List.eq_of_mem_replicate h)
    · exact .inr (List.mem_singleton.mp h)
  · exact .inl (List.eq_of_mem_replicate h)
end Mine
-- ML
namespace Mine
open PySem PySem.W PyProof.Rows PySem.Spec PySem.Calls

noncomputable def LEnd (h₀ : Heap) (L : Addr) (wr : List Addr) (own : List (Addr × Obj)) (J : (Str → Option Value) → List (Addr × Obj) → Prop) (s₁ s₂ : Shared) : Prop :=
  ∃ h' tk m' news', s₂ = { s₁ with heap := h', toks := tk } ∧ Fr h₀ L h' m' ∧ News h₀ L h' (news' ++ own) ∧ (∀ p ∈ news', p.1 ∉ wr) ∧ J m' news'
noncomputable def LPost (h₀ : Heap) (L : Addr) (wr : List Addr) (own : List (Addr × Obj)) (J : (Str → Option Value) → List (Addr × Obj) → Prop) (s₁ : Shared) (Q : Flow → Shared → Prop) (f : Flow) (s₂ : Shared) : Prop :=
  match f with
  | .ret v => Q (.ret v) s₂
  | .brk => Q .next s₂
  | _ => LEnd h₀ L wr own J s₁ s₂

theorem LEnd.intro {h₀ h' : Heap} {L : Addr} {wr : List Addr} {own news' led : List (Addr × Obj)} {J : (Str → Option Value) → List (Addr × Obj) → Prop} {s₁ : Shared} {tk : Nat} {m' : Str → Option Value}
    (F : Fr h₀ L h' m') (N : News h₀ L h' led) (hs : ∀ p ∈ news' ++ own, p ∈ led) (hw : ∀ p ∈ news', p.1 ∉ wr) (hj : J m' news') :
    LEnd h₀ L wr own J s₁ { s₁ with heap := h', toks := tk } := ⟨h', tk, m', news', rfl, F, fun p hp => N p (hs p hp), hw, hj⟩

theorem swap_mem {α : Type} {a b : List α} {p : α} (h : p ∈ a ++ b) : p ∈ b ++ a := List.mem_append.mpr ((List.mem_append.mp h).symm)
theorem fr_pin {h₀ h : Heap} {L : Addr} {m : Str → Option Value} {x : Str} {v : Value} (F : Fr h₀ L h m) (e : m x = some v) : Fr h₀ L h (fun y => if y = x then some v else m y) := by
  have : (fun y => if y = x then some v else m y) = m := by
    funext y
    by_cases h : y = x
    · subst h; simp [e]
    · simp [h]
  rw [this]; exact F

structure Stop (P : Prop) : Prop where
  out : P
theorem Stop.go {P : Prop} (h : P) : Stop P := ⟨h⟩

section
variable {prog : Program} {w : World} {A : Around} {E : Value → Shared → Prop} {s : Shared} {env : Env} {h₀ : Heap} {x : Str} {body : List Stmt} {Q : Flow → Shared → Prop}

theorem my_loop {I : Addr} {fp wr : List Addr} {n : Nat} {P : Nat → Value → Prop} {St : Nat → Heap → Prop} {m₀ : Str → Option Value} {news : List (Addr × Obj)} (J : Nat → (Str → Option Value) → List (Addr × Obj) → Prop)
    (W : Walks prog w A I fp wr n P St) (hLf : env.locals ∉ fp) (hwr : ∀ b ∈ wr, h₀.get? b = none) (hnw : ∀ p ∈ news, p.1 ∉ wr) (hst : St 0 s.heap) (F : Fr h₀ env.locals s.heap m₀) (N : News h₀ env.locals s.heap news) (hj : J 0 m₀ news)
    (turn : ∀ i v m₁ news₁ h tk own, i < n → P i v → J i m₁ news₁ → (∀ p ∈ news₁, p.1 ∉ wr) → (∀ b ∈ fp, h₀.get? b = none → ∀ o, h.get? b = some o → (b, o) ∈ own) → St (i + 1) h →
      Fr h₀ env.locals h (fun y => if y = x then some v else m₁ y) → News h₀ env.locals h (news₁ ++ own) →
      wpAny (model prog w) A (execs body env) (LPost h₀ env.locals wr own (J (i + 1)) { s with heap := h, toks := tk } Q) E { s with heap := h, toks := tk })
    (done : ∀ m₁ news₁ h tk, J n m₁ news₁ → Fr h₀ env.locals h m₁ → News h₀ env.locals h news₁ → Q .next { s with heap := h, toks := tk }) :
    LoopAtV prog w A h₀ env x body Q E (.ref I) s := by
  refine ⟨I, fp, wr, n, P, St, m₀, news, J, rfl, W, hLf, hwr, hnw, hst, F, N, hj, ?_, ?_⟩
  · rintro i v m₁ news₁ s₁ own ⟨hh', tk', rfl⟩ hin hP hJ hoff _ _ hall hst' F₁ N₁
    refine wpAny_mono (turn i v m₁ news₁ hh' tk' own hin hP hJ hoff hall hst' F₁ fun p hp => N₁ p (swap_mem hp)) (fun f s₂ p => ?_) fun _ _ e => e
    have fin : LEnd h₀ env.locals wr own (J (i + 1)) { s with heap := hh', toks := tk' } s₂ → LoopStepU h₀ env.locals wr own (J (i + 1)) { s with heap := hh', toks := tk' } .next s₂ := by
      rintro ⟨h', tk, m', news', e, F', N', hw, hm⟩
      exact ⟨rfl, h', tk, m', news', e, F', fun p hp => N' p (swap_mem hp), hw, hm⟩
    cases f with
    | ret v => exact .ret p
    | brk => exact .brk p
    | next => exact .next (fin p)
    | cont => exact .cont (fin p)
  · rintro h' tk m' news' F' N' _ hJ
    exact done m' news' h' tk hJ F' N'

theorem my_pyIter_str {xt : Str} {t : Tok} {R : Value → Shared → Prop}
    (hQ : ∀ (o : Obj) (St : Nat → Heap → Prop), (∀ A' : Around, A'.handled = none → Walks prog w A' s.heap.objs.size [s.heap.objs.size] [s.heap.objs.size] xt.cps.size (SignAt xt) St) → (∀ i h, St i h → ∃ o, h.get? s.heap.objs.size = some o) → St 0 (s.heap.push o) →
      R (.ref s.heap.objs.size) { s with heap := s.heap.push o }) : wpAny (model prog w) A (pyIter (.str xt t)) R E s := by
  cases ha : xt.cps.all (· < 128)
  · exact wpAny_pyIter_wide ha (hQ _ _ (fun A' hA => Walks.strWide hA _ xt t) (fun _ _ st => let ⟨o, ho, _⟩ := st; ⟨o, ho⟩) ⟨_, Heap.get?_push_size _ rfl, rfl, rfl⟩)
  · exact wpAny_pyIter_ascii ha (hQ _ _ (fun A' hA => Walks.strAscii hA _ xt t) (fun _ _ st => let ⟨o, ho, _⟩ := st; ⟨o, ho⟩) ⟨_, Heap.get?_push_size _ rfl, rfl, rfl⟩)

theorem my_For {m : Str → Option Value} {px pos : Pos} {iter : Expr} (_F : Fr h₀ env.locals s.heap m) (hx : env.kindOf x = some .local)
    (hp : (env.scope.kind == .class || (env.scope.kind == .module && env.locals != env.globals)) = false)
    (h : wpAny (model prog w) A (eval iter env) (fun xv s₁ => Stop (wpAny (model prog w) A (pyIter xv) (fun it s₂ => LoopAtV prog w A h₀ env x body Q E it s₂) E s₁)) E s)
    (hs : ∀ x, foldedSetIterable iter env x = pure x := by intro _; rfl)
    (hE : PassesOwn (model prog w) A env E := by passes_own) :
    wpAny (model prog w) A (exec (.For (.Name x px) iter body [] pos) env) Q E s :=
  For_invV h₀ hx hp (wpAny_mono h (fun _ _ h => h.out) fun _ _ e => e) hs hE

/-- a loop over a text, sign by sign -/
theorem text_loop {xt : Str} {tx : Tok} {m₀ : Str → Option Value} {news : List (Addr × Obj)} (J : Nat → (Str → Option Value) → List (Addr × Obj) → Prop)
    (hh : A.handled = none) (F : Fr h₀ env.locals s.heap m₀) (N : News h₀ env.locals s.heap news) (hj : J 0 m₀ news)
    (turn : ∀ I i c t m₁ news₁ h tk own, (∀ p ∈ news, p.1 < I) → xt.cps[i]? = some c → J i m₁ news₁ → (∀ p ∈ news₁, p.1 ∉ [I]) → (∃ o, (I, o) ∈ own) →
      Fr h₀ env.locals h (fun y => if y = x then some (.str ⟨#[c]⟩ t) else m₁ y) → News h₀ env.locals h (news₁ ++ own) →
      wpAny (model prog w) A (execs body env) (LPost h₀ env.locals [I] own (J (i + 1)) { s with heap := h, toks := tk } Q) E { s with heap := h, toks := tk })
    (done : ∀ m₁ news₁ h tk, J xt.cps.size m₁ news₁ → Fr h₀ env.locals h m₁ → News h₀ env.locals h news₁ → Q .next { s with heap := h, toks := tk }) :
    wpAny (model prog w) A (pyIter (.str xt tx)) (fun it s₂ => LoopAtV prog w A h₀ env x body Q E it s₂) E s := by
  refine my_pyIter_str fun o St hW hob hst => ?_
  have W := hW A hh
  have hlt : ∀ p ∈ news, p.1 < s.heap.objs.size := fun p hp => Heap.lt_size (N p hp).1
  have hI0 := next_is_new F
  refine my_loop J W ?_ ?_ ?_ hst (F.push _) (fun p hp => ⟨Heap.get?_push_of_some _ (N p hp).1, (N p hp).2⟩) hj ?_ ?_
  · intro hm
    exact absurd F.ns.lt ((List.mem_singleton.mp hm) ▸ Nat.lt_irrefl _)
  · intro b' hb
    rw [List.mem_singleton.mp hb]
    exact hI0
  · intro p hp hI
    exact absurd (hlt p hp) ((List.mem_singleton.mp hI) ▸ Nat.lt_irrefl _)
  · rintro i v m₁ nx h tk own hi ⟨c, u, hc, rfl⟩ hJ hoff hall hst' F₁ N₁
    obtain ⟨o', ho'⟩ := hob _ _ hst'
    exact turn _ i c u m₁ nx h tk own hlt hc hJ hoff ⟨o', hall _ (List.mem_singleton.mpr rfl) hI0 _ ho'⟩ F₁ N₁
  · intro m₁ nx h tk hJ F₁ N₁
    exact done m₁ nx h tk hJ F₁ N₁

noncomputable def PEnd (h₀ : Heap) (L : Addr) (own news₁ : List (Addr × Obj)) (J : (Str → Option Value) → List (Addr × Obj) → Prop) (s₁ s₂ : Shared) : Prop :=
  ∃ h' tk m' news', s₂ = { s₁ with heap := h', toks := tk } ∧ Fr h₀ L h' m' ∧ News h₀ L h' (news' ++ own) ∧ news'.map (·.1) = news₁.map (·.1) ∧ J m' news'
noncomputable def PPost (h₀ : Heap) (L : Addr) (own news₁ : List (Addr × Obj)) (J : (Str → Option Value) → List (Addr × Obj) → Prop) (s₁ : Shared) (Q : Flow → Shared → Prop) (f : Flow) (s₂ : Shared) : Prop :=
  match f with
  | .ret v => Q (.ret v) s₂
  | .brk => Q .next s₂
  | _ => PEnd h₀ L own news₁ J s₁ s₂
theorem PEnd.intro {h₀ h' : Heap} {L : Addr} {own news₁ news' led : List (Addr × Obj)} {J : (Str → Option Value) → List (Addr × Obj) → Prop} {s₁ : Shared} {tk : Nat} {m' : Str → Option Value}
    (F : Fr h₀ L h' m') (N : News h₀ L h' led) (hs : ∀ p ∈ news' ++ own, p ∈ led) (ha : news'.map (·.1) = news₁.map (·.1)) (hj : J m' news') :
    PEnd h₀ L own news₁ J s₁ { s₁ with heap := h', toks := tk } := ⟨h', tk, m', news', rfl, F, fun p hp => N p (hs p hp), ha, hj⟩

theorem k_enum {l : Addr} {items : Array Value} {m : Str → Option Value} {L : Addr} {news : List (Addr × Obj)} {Q : Value → Shared → Prop} (hL : s.heap.IsList l items) (F : Fr h₀ L s.heap m) (N : News h₀ L s.heap news)
    (h : ∀ h' it, IsEnum h' (it + 1) it 0 .none → h'.IsListIter it l 0 → (∀ p ∈ news, p.1 < it) → L < it → l < it → Fr h₀ L h' m → News h₀ L h' news → Q (.ref (it + 1)) { s with heap := h' }) :
    wpAny (model prog w) A (call (.type "enumerate") [.ref l]) Q E s := by
  refine call_enumerate_list hL fun h' he hit hsz hk => ?_
  obtain ⟨o, ho, _⟩ := hL
  exact h h' _ he hit (fun p hp => Heap.lt_size (N p hp).1) F.ns.lt (Heap.lt_size ho) ⟨F.ns.keeps hk, fun b o e => hk b o (F.keep b o e), F.above⟩ fun p hp => ⟨hk _ _ (N p hp).1, (N p hp).2⟩

theorem my_ForE {m : Str → Option Value} {xi xc : Str} {pk pv pt pos : Pos} {x1 : Nat} {iter : Expr} (_F : Fr h₀ env.locals s.heap m) (hh : A.handled = none)
    (hxi : env.kindOf xi = some .local) (hxc : env.kindOf xc = some .local)
    (hp : (env.scope.kind == .class || (env.scope.kind == .module && env.locals != env.globals)) = false)
    (h : wpAny (model prog w) A (eval iter env) (fun xv s₁ => Stop (wpAny (model prog w) A (pyIter xv) (fun it s₂ => PairAt3 prog w A h₀ env xi xc body Q E it s₂) E s₁)) E s)
    (hs : ∀ x, foldedSetIterable iter env x = pure x := by intro _; rfl)
    (hE : PassesOwn (model prog w) A env E := by passes_own) :
    wpAny (model prog w) A (exec (.For (.Tuple [.Name xi pk, .Name xc pv] x1 pt) iter body [] pos) env) Q E s :=
  For_pair3 h₀ hh hxi hxc hp (wpAny_mono h (fun _ _ h => h.out) fun _ _ e => e) hs hE

/-- for i, v in enumerate(l) -/
theorem enum_loop {xi xc : Str} {l it : Addr} {vs : List Value} {m₀ : Str → Option Value} {news : List (Addr × Obj)} (J : Nat → (Str → Option Value) → List (Addr × Obj) → Prop)
    (hh : A.handled = none) (he : IsEnum s.heap (it + 1) it 0 .none) (hit : s.heap.IsListIter it l 0) (hL : s.heap.IsList l vs.toArray) (hlt : ∀ p ∈ news, p.1 < it) (hLi : env.locals < it) (hli : l < it) (hlL : l ≠ env.locals)
    (F : Fr h₀ env.locals s.heap m₀) (N : News h₀ env.locals s.heap news) (hj : J 0 m₀ news)
    (turn : ∀ i v t m₁ news₁ h tk own, vs[i]? = some v → J i m₁ news₁ → news₁.map (·.1) = news.map (·.1) → (∀ p ∈ own, p.1 = it + 1 ∨ p.1 = it ∨ p.1 = l) →
      Fr h₀ env.locals h (fun y => if y = xc then some v else if y = xi then some (.int i t) else m₁ y) → News h₀ env.locals h (news₁ ++ own) →
      wpAny (model prog w) A (execs body env) (PPost h₀ env.locals own news₁ (J (i + 1)) { s with heap := h, toks := tk } Q) E { s with heap := h, toks := tk })
    (done : ∀ m₁ news₁ h tk, news₁.map (·.1) = news.map (·.1) → J vs.length m₁ news₁ → Fr h₀ env.locals h m₁ → News h₀ env.locals h news₁ → Q .next { s with heap := h, toks := tk }) :
    wpAny (model prog w) A (pyIter (.ref (it + 1))) (fun iv s₂ => PairAt3 prog w A h₀ env xi xc body Q E iv s₂) E s := by
  refine wpAny_pyIter_enum he ?_
  have D := Draws.list (prog := prog) (w := w) (A := A.in1) hh it l (Nat.ne_of_lt hli) vs.toArray
  have none_at : ∀ b, env.locals < b → h₀.get? b = none := fun b hb => Heap.get?_none_of_le (Nat.le_trans F.above (Nat.le_of_lt hb))
  refine ⟨it + 1, [it + 1, it, l], [it + 1, it], vs.toArray.size, _, _, _, (fun i v0 v1 => ∃ t, v0 = .int i t ∧ vs.toArray[i]? = some v1), m₀, news, J, rfl,
    WalksT.enumerateD D (it + 1) (Nat.succ_ne_self _) ?_ (by simp), ?_, ?_, ?_, ?_, ⟨⟨_, by simpa using he⟩, hit, hL⟩, F, N, hj, ?_, ?_⟩
  · intro hm
    rcases List.mem_cons.mp hm with e | hm
    · exact Nat.succ_ne_self _ e
    · exact Nat.ne_of_gt (Nat.lt_succ_of_lt hli) (List.mem_singleton.mp hm)
  · rintro i vals ⟨t, x, hPx, rfl⟩
    exact ⟨_, _, rfl, t, rfl, hPx⟩
  · intro hm
    rcases List.mem_cons.mp hm with e | hm
    · exact Nat.ne_of_lt (Nat.lt_succ_of_lt hLi) e
    · rcases List.mem_cons.mp hm with e | hm
      · exact Nat.ne_of_lt hLi e
      · exact hlL (List.mem_singleton.mp hm).symm
  · intro b hb
    rcases List.mem_cons.mp hb with rfl | hb
    · exact none_at _ (Nat.lt_succ_of_lt hLi)
    · rw [List.mem_singleton.mp hb]; exact none_at _ hLi
  · intro p hp hb
    have := hlt p hp
    rcases List.mem_cons.mp hb with e | hb
    · rw [e] at this; exact absurd this (Nat.not_lt.mpr (Nat.le_succ _))
    · rw [List.mem_singleton.mp hb] at this; exact absurd this (Nat.lt_irrefl _)
  · rintro i v0 v1 m₁ news₁ s₁ own ⟨hh', tk', rfl⟩ _ ⟨t, rfl, hPx⟩ hJ ha hsub F₁ N₁
    refine wpAny_mono (turn i v1 t m₁ news₁ hh' tk' own (by simpa using hPx) hJ ha (fun p hp => by simpa using hsub p hp) F₁ fun p hp => N₁ p (swap_mem hp)) (fun f s₂ q => ?_) fun _ _ e => e
    have fin : PEnd h₀ env.locals own news₁ (J (i + 1)) { s with heap := hh', toks := tk' } s₂ → LoopStep2 h₀ env.locals own news₁ (J (i + 1)) { s with heap := hh', toks := tk' } .next s₂ := by
      rintro ⟨h', tk, m', news', e, F', N', ha', hm⟩
      exact ⟨rfl, h', tk, m', news', e, F', fun p hp => N' p (swap_mem hp), ha', hm⟩
    cases f with
    | ret v => exact q
    | brk => exact q
    | next => exact fin q
    | cont => exact fin q
  · intro h' tk m' news' F' N' ha hJ
    exact done m' news' h' tk ha (by simpa using hJ) F' N'
end
end Mine
-- ML2
namespace Mine
open PySem PySem.W PyProof.Rows PySem.Spec PySem.Calls
section
variable {prog : Program} {w : World} {A : Around} {E : Value → Shared → Prop} {s : Shared} {env : Env} {h₀ : Heap} {body orelse : List Stmt} {Q : Flow → Shared → Prop}

/-- what a loop with an else has to do when the else is never reached: every way leaves by a return -/
noncomputable def ElseAt (prog : Program) (w : World) (A : Around) (env : Env) (target : Expr) (body orelse : List Stmt) (Q : Flow → Shared → Prop) (E : Value → Shared → Prop) (it : Value) (s₂ : Shared) : Prop :=
  codeAny (model prog w) A (.forLoop target it body orelse env) (fun r s' => match r with | .ok f => Q f s' | .error e => cameBackBy (model prog w) A env E e s') s₂

theorem my_ForElse {target iter : Expr} {pos : Pos} {m : Str → Option Value} (_F : Fr h₀ env.locals s.heap m)
    (h : wpAny (model prog w) A (eval iter env) (fun xv s₁ => Stop (wpAny (model prog w) A (pyIter xv) (fun it s₂ => ElseAt prog w A env target body orelse Q E it s₂) E s₁)) E s)
    (hs : ∀ x, foldedSetIterable iter env x = pure x := by intro _; rfl) :
    wpAny (model prog w) A (exec (.For target iter body orelse pos) env) Q E s :=
  wpAny_For (wpAny_mono h (fun _ _ h => h.out) fun _ _ e => e) hs

theorem enum_else {xi xc : Str} {pk pv pt : Pos} {x1 : Nat} {l it : Addr} {vs : List Value} {m₀ : Str → Option Value} {news : List (Addr × Obj)} (J : Nat → (Str → Option Value) → List (Addr × Obj) → Prop)
    (hh : A.handled = none) (hxi : env.kindOf xi = some .local) (hxc : env.kindOf xc = some .local)
    (hp : (env.scope.kind == .class || (env.scope.kind == .module && env.locals != env.globals)) = false)
    (hE : PassesOwn (model prog w) A env E)
    (he : IsEnum s.heap (it + 1) it 0 .none) (hit : s.heap.IsListIter it l 0) (hL : s.heap.IsList l vs.toArray) (hlt : ∀ p ∈ news, p.1 < it) (hLi : env.locals < it) (hli : l < it) (hlL : l ≠ env.locals)
    (F : Fr h₀ env.locals s.heap m₀) (N : News h₀ env.locals s.heap news) (hj : J 0 m₀ news) (no : ∀ m' news', ¬ J vs.length m' news')
    (turn : ∀ i v t m₁ news₁ h tk own, vs[i]? = some v → J i m₁ news₁ → news₁.map (·.1) = news.map (·.1) →
      Fr h₀ env.locals h (fun y => if y = xc then some v else if y = xi then some (.int i t) else m₁ y) → News h₀ env.locals h (news₁ ++ own) →
      wpAny (model prog w) A (execs body env) (PPost h₀ env.locals own news₁ (J (i + 1)) { s with heap := h, toks := tk } Q) E { s with heap := h, toks := tk }) :
    wpAny (model prog w) A (pyIter (.ref (it + 1))) (fun iv s₂ => ElseAt prog w A env (.Tuple [.Name xi pk, .Name xc pv] x1 pt) body orelse Q E iv s₂) E s := by
  refine wpAny_pyIter_enum he ?_
  have D := Draws.list (prog := prog) (w := w) (A := A.in1) hh it l (Nat.ne_of_lt hli) vs.toArray
  have W := WalksT.enumerateD D (it + 1) (Nat.succ_ne_self _) (fun hm => by
    rcases List.mem_cons.mp hm with e | hm
    · exact Nat.succ_ne_self _ e
    · exact Nat.ne_of_gt (Nat.lt_succ_of_lt hli) (List.mem_singleton.mp hm)) (by simp)
  have hnew : ∀ b, env.locals < b → h₀.get? b = none := fun b hb => Heap.get?_none_of_le (Nat.le_trans F.above (Nat.le_of_lt hb))
  have hwr : ∀ b ∈ [it + 1, it], h₀.get? b = none := by
    intro b hb
    simp only [List.mem_cons, List.not_mem_nil, or_false] at hb
    rcases hb with rfl | rfl
    · exact hnew _ (Nat.lt_succ_of_lt hLi)
    · exact hnew _ hLi
  have hLf : env.locals ∉ [it + 1, it, l] := by
    simp only [List.mem_cons, List.not_mem_nil, or_false, not_or]
    exact ⟨Nat.ne_of_lt (Nat.lt_succ_of_lt hLi), Nat.ne_of_lt hLi, Ne.symm hlL⟩
  have hLw : env.locals ∉ [it + 1, it] := fun h => hLf (W.sub _ h)
  have hoff : ∀ nx : List (Addr × Obj), nx.map (·.1) = news.map (·.1) → ∀ p ∈ nx, p.1 ∉ [it + 1, it] := by
    intro nx ha p hp hb
    have hm : p.1 ∈ news.map (·.1) := ha ▸ List.mem_map.mpr ⟨p, hp, rfl⟩
    obtain ⟨q, hq, e⟩ := List.mem_map.mp hm
    have hq' := hlt q hq
    simp only [List.mem_cons, List.not_mem_nil, or_false] at hb
    rw [e] at hq'
    rcases hb with hb | hb
    · rw [hb] at hq'; exact absurd hq' (Nat.not_lt.mpr (Nat.le_succ _))
    · rw [hb] at hq'; exact absurd hq' (Nat.lt_irrefl _)
  refine codeAny_forLoop_any (fun k s' => ∃ H tk mm nx, ∃ i : Nat, s' = { s with heap := H, toks := tk } ∧ ((∃ old, IsEnum H (it + 1) it i old) ∧ H.IsListIter it l i ∧ H.IsList l vs.toArray) ∧ Fr h₀ env.locals H mm ∧ News h₀ env.locals H nx ∧
      nx.map (·.1) = news.map (·.1) ∧ J i mm nx ∧ i ≤ vs.length ∧ k = vs.length + 1 - i) ?_ (vs.length + 1)
    ⟨s.heap, s.toks, m₀, news, 0, rfl, ⟨⟨_, he⟩, hit, hL⟩, F, N, rfl, hj, Nat.zero_le _, rfl⟩
  rintro k s' ⟨H, tk, mm, nx, i, rfl, st, F₁, N₁, ha, hJ, hi, rfl⟩
  have hlt' : i < vs.length := by
    rcases Nat.lt_or_eq_of_le hi with h | h
    · exact h
    · exact absurd (h ▸ hJ) (no _ _)
  refine W.item i _ _ _ (by simpa using hlt') st fun T vals H₁ tk₁ hPt _ hT hMid k₁ => ?_
  obtain ⟨t, x, hx, rfl⟩ := hPt
  have hx' : vs[i]? = some x := by simpa using hx
  refine W.go _ x1 pt i T _ _ _ hMid fun H₂ st₂ k₂ => ?_
  have hT₂ : H₂.IsTuple T #[.int i t, x] := hT.at fun o e => k₂ T o (W.apart i T H₁ hMid) e
  refine wpAny_assign_Tuple hh hT₂ rfl rfl fun H₃ (x₃ : Heap.ExtBut H₂.objs.size H₂ H₃) => ?_
  have up : ∀ b o, b ∉ [it + 1, it] → H.get? b = some o → H₃.get? b = some o := fun b o hb e => by
    have e₂ := k₂ b o hb (k₁ b o hb e)
    exact x₃ b o (Nat.ne_of_lt (Heap.lt_size e₂)) e₂
  have F₃ : Fr h₀ env.locals H₃ mm := ⟨F₁.ns.at' fun o e => up _ o hLw e, fun b o e => up b o (fun hb => by rw [hwr b hb] at e; cases e) (F₁.keep b o e), F₁.above⟩
  have N₃ : News h₀ env.locals H₃ nx := fun p hp => ⟨up _ _ (hoff nx ha p hp) (N₁ p hp).1, (N₁ p hp).2⟩
  show wpAny _ A (do holding [x] (assign (.Name xi pk) env (.int i t)); do holding [] (assign (.Name xc pv) env x); pure ()) _ _ _
  refine wpAny_bind (wpAny_holding (wpAny_assign_Name (wpAny_storeName_local hxi F₃.ns (fun H₄ n₄ (s₄ : Heap.SameBut env.locals H₃ H₄) => ?_) hp)))
  have F₄ := F₃.set n₄ s₄
  refine wpAny_bind (wpAny_holding (wpAny_assign_Name (wpAny_storeName_local hxc F₄.ns (fun H₅ n₅ (s₅ : Heap.SameBut env.locals H₄ H₅) => wpAny_pure ?_) hp)))
  have F₅ := F₄.set n₅ s₅
  have N₅ : News h₀ env.locals H₅ nx := (N₃.set s₄).set s₅
  have st₅ := W.frame _ _ H₅ st₂ fun b hb o e => s₅.extBut b o (fun q => hLf (q ▸ hb)) (s₄.extBut b o (fun q => hLf (q ▸ hb)) (x₃ b o (Nat.ne_of_lt (Heap.lt_size e)) e))
  refine wpAny_mono (wpAny_passesOwn hE (turn i x t mm nx H₅ _ (ownOf h₀ [it + 1, it, l] H₅) hx' hJ ha F₅ (fun p hp => (List.mem_append.mp hp).elim (N₅ p) (news_ownOf hLf p)))) (fun f s₃ z => ?_) fun _ _ e => e
  have fin : ∀ tk₅, PEnd h₀ env.locals (ownOf h₀ [it + 1, it, l] H₅) nx (J (i + 1)) { s with heap := H₅, toks := tk₅ } s₃ → ∃ m, m < vs.length + 1 - i ∧ ∃ H tk mm nx, ∃ i : Nat, s₃ = { s with heap := H, toks := tk } ∧ ((∃ old, IsEnum H (it + 1) it i old) ∧ H.IsListIter it l i ∧ H.IsList l vs.toArray) ∧ Fr h₀ env.locals H mm ∧ News h₀ env.locals H nx ∧
      nx.map (·.1) = news.map (·.1) ∧ J i mm nx ∧ i ≤ vs.length ∧ m = vs.length + 1 - i := by
    rintro tk₅ ⟨H₆, tk₆, m₆, n₆, rfl, F₆, N₆, a₆, J₆⟩
    refine ⟨vs.length + 1 - (i + 1), by omega, H₆, tk₆, m₆, n₆, i + 1, rfl, ?_, F₆, fun p hp => N₆ p (List.mem_append.mpr (.inl hp)), a₆.trans ha, J₆, hlt', rfl⟩
    refine W.frame _ _ _ st₅ fun b hb o e => ?_
    cases hn : h₀.get? b with
    | some o₀ =>
      have e₀ := F₅.keep b o₀ hn
      rw [e] at e₀
      rw [Option.some.inj e₀]
      exact F₆.keep b o₀ hn
    | none => exact (N₆ _ (List.mem_append.mpr (.inr (mem_ownOf hb hn e)))).1
  cases f with
  | ret v => exact z
  | brk => exact z
  | next => exact fin _ z
  | cont => exact fin _ z

/-- for x in l, l a list anywhere -/
theorem list_loop {x : Str} {l : Addr} {vs : List Value} {m₀ : Str → Option Value} {news : List (Addr × Obj)} (J : Nat → (Str → Option Value) → List (Addr × Obj) → Prop)
    (hh : A.handled = none) (hL : s.heap.IsList l vs.toArray) (hlL : l ≠ env.locals) (F : Fr h₀ env.locals s.heap m₀) (N : News h₀ env.locals s.heap news) (hj : J 0 m₀ news)
    (turn : ∀ I i v m₁ news₁ h tk own, (∀ p ∈ news, p.1 < I) → vs[i]? = some v → J i m₁ news₁ → (∀ p ∈ news₁, p.1 ∉ [I]) → (∃ o, (I, o) ∈ own) →
      Fr h₀ env.locals h (fun y => if y = x then some v else m₁ y) → News h₀ env.locals h (news₁ ++ own) →
      wpAny (model prog w) A (execs body env) (LPost h₀ env.locals [I] own (J (i + 1)) { s with heap := h, toks := tk } Q) E { s with heap := h, toks := tk })
    (done : ∀ m₁ news₁ h tk, J vs.length m₁ news₁ → Fr h₀ env.locals h m₁ → News h₀ env.locals h news₁ → Q .next { s with heap := h, toks := tk }) :
    wpAny (model prog w) A (pyIter (.ref l)) (fun it s₂ => LoopAtV prog w A h₀ env x body Q E it s₂) E s := by
  have hll : l < s.heap.objs.size := by obtain ⟨o, ho, _⟩ := hL; exact Heap.lt_size ho
  refine wpAny_pyIter_list hL ?_
  have W := Walks.list (prog := prog) (w := w) hh s.heap.objs.size l (Nat.ne_of_lt hll) vs.toArray
  have hlt : ∀ p ∈ news, p.1 < s.heap.objs.size := fun p hp => Heap.lt_size (N p hp).1
  have hI0 := next_is_new F
  refine my_loop J W ?_ ?_ ?_ ⟨⟨_, Heap.get?_push_size _ rfl, rfl, rfl⟩, hL.at fun o e => Heap.get?_push_of_some _ e⟩ (F.push _) (fun p hp => ⟨Heap.get?_push_of_some _ (N p hp).1, (N p hp).2⟩) hj ?_ ?_
  · intro hm
    rcases List.mem_cons.mp hm with e | hm
    · exact absurd F.ns.lt (e ▸ Nat.lt_irrefl _)
    · exact hlL (List.mem_singleton.mp hm).symm
  · intro b' hb
    rw [List.mem_singleton.mp hb]
    exact hI0
  · intro p hp hI
    exact absurd (hlt p hp) ((List.mem_singleton.mp hI) ▸ Nat.lt_irrefl _)
  · rintro i v m₁ nx h tk own hi hv hJ hoff hall hst' F₁ N₁
    obtain ⟨⟨o', ho', _⟩, _⟩ := hst'
    exact turn _ i v m₁ nx h tk own hlt (by simpa using hv) hJ hoff ⟨o', hall _ (List.mem_cons_self ..) hI0 _ ho'⟩ F₁ N₁
  · intro m₁ nx h tk hJ F₁ N₁
    exact done m₁ nx h tk (by simpa using hJ) F₁ N₁
end
end Mine
-- ML3
namespace Mine
open PySem PySem.W PyProof.Rows PySem.Spec PySem.Calls
section
variable {prog : Program} {w : World} {A : Around} {E : Value → Shared → Prop} {s : Shared} {env : Env} {h₀ : Heap} {x : Str} {body : List Stmt} {Q : Flow → Shared → Prop}
theorem my_loopO {I : Addr} {fp wr : List Addr} {n : Nat} {P : Nat → Value → Prop} {St : Nat → Heap → Prop} {m₀ : Str → Option Value} {news : List (Addr × Obj)} (J : Nat → (Str → Option Value) → List (Addr × Obj) → Prop)
    (W : Walks prog w A I fp wr n P St) (hLf : env.locals ∉ fp) (hwr : ∀ b ∈ wr, h₀.get? b = none) (hnw : ∀ p ∈ news, p.1 ∉ wr) (hst : St 0 s.heap) (F : Fr h₀ env.locals s.heap m₀) (N : News h₀ env.locals s.heap news) (hj : J 0 m₀ news)
    (turn : ∀ i v m₁ news₁ h tk own, i < n → P i v → J i m₁ news₁ → (∀ p ∈ news₁, p.1 ∉ wr) → (∀ p ∈ own, p.1 ∈ fp) → (∀ b ∈ fp, h₀.get? b = none → ∀ o, h.get? b = some o → (b, o) ∈ own) → St (i + 1) h →
      Fr h₀ env.locals h (fun y => if y = x then some v else m₁ y) → News h₀ env.locals h (news₁ ++ own) →
      wpAny (model prog w) A (execs body env) (LPost h₀ env.locals wr own (J (i + 1)) { s with heap := h, toks := tk } Q) E { s with heap := h, toks := tk })
    (done : ∀ m₁ news₁ h tk, J n m₁ news₁ → Fr h₀ env.locals h m₁ → News h₀ env.locals h news₁ → Q .next { s with heap := h, toks := tk }) :
    LoopAtV prog w A h₀ env x body Q E (.ref I) s := by
  refine ⟨I, fp, wr, n, P, St, m₀, news, J, rfl, W, hLf, hwr, hnw, hst, F, N, hj, ?_, ?_⟩
  · rintro i v m₁ news₁ s₁ own ⟨hh', tk', rfl⟩ hin hP hJ hoff hsub _ hall hst' F₁ N₁
    refine wpAny_mono (turn i v m₁ news₁ hh' tk' own hin hP hJ hoff hsub hall hst' F₁ fun p hp => N₁ p (swap_mem hp)) (fun f s₂ p => ?_) fun _ _ e => e
    have fin : LEnd h₀ env.locals wr own (J (i + 1)) { s with heap := hh', toks := tk' } s₂ → LoopStepU h₀ env.locals wr own (J (i + 1)) { s with heap := hh', toks := tk' } .next s₂ := by
      rintro ⟨h', tk, m', news', e, F', N', hw, hm⟩
      exact ⟨rfl, h', tk, m', news', e, F', fun p hp => N' p (swap_mem hp), hw, hm⟩
    cases f with
    | ret v => exact .ret p
    | brk => exact .brk p
    | next => exact .next (fin p)
    | cont => exact .cont (fin p)
  · rintro h' tk m' news' F' N' _ hJ
    exact done m' news' h' tk hJ F' N'

/-- for x in l, l a list anywhere -/
theorem list_loopO {x : Str} {l : Addr} {vs : List Value} {m₀ : Str → Option Value} {news : List (Addr × Obj)} (J : Nat → (Str → Option Value) → List (Addr × Obj) → Prop)
    (hh : A.handled = none) (hL : s.heap.IsList l vs.toArray) (hlL : l ≠ env.locals) (F : Fr h₀ env.locals s.heap m₀) (N : News h₀ env.locals s.heap news) (hj : J 0 m₀ news)
    (turn : ∀ I i v m₁ news₁ h tk own, (∀ p ∈ news, p.1 < I) → vs[i]? = some v → J i m₁ news₁ → (∀ p ∈ news₁, p.1 ∉ [I]) → (∀ p ∈ own, p.1 = I ∨ p.1 = l) → (∃ o, (I, o) ∈ own) →
      Fr h₀ env.locals h (fun y => if y = x then some v else m₁ y) → News h₀ env.locals h (news₁ ++ own) →
      wpAny (model prog w) A (execs body env) (LPost h₀ env.locals [I] own (J (i + 1)) { s with heap := h, toks := tk } Q) E { s with heap := h, toks := tk })
    (done : ∀ m₁ news₁ h tk, J vs.length m₁ news₁ → Fr h₀ env.locals h m₁ → News h₀ env.locals h news₁ → Q .next { s with heap := h, toks := tk }) :
    wpAny (model prog w) A (pyIter (.ref l)) (fun it s₂ => LoopAtV prog w A h₀ env x body Q E it s₂) E s := by
  have hll : l < s.heap.objs.size := by obtain ⟨o, ho, _⟩ := hL; exact Heap.lt_size ho
  refine wpAny_pyIter_list hL ?_
  have W := Walks.list (prog := prog) (w := w) hh s.heap.objs.size l (Nat.ne_of_lt hll) vs.toArray
  have hlt : ∀ p ∈ news, p.1 < s.heap.objs.size := fun p hp => Heap.lt_size (N p hp).1
  have hI0 := next_is_new F
  refine my_loopO J W ?_ ?_ ?_ ⟨⟨_, Heap.get?_push_size _ rfl, rfl, rfl⟩, hL.at fun o e => Heap.get?_push_of_some _ e⟩ (F.push _) (fun p hp => ⟨Heap.get?_push_of_some _ (N p hp).1, (N p hp).2⟩) hj ?_ ?_
  · intro hm
    rcases List.mem_cons.mp hm with e | hm
    · exact absurd F.ns.lt (e ▸ Nat.lt_irrefl _)
    · exact hlL (List.mem_singleton.mp hm).symm
  · intro b' hb
    rw [List.mem_singleton.mp hb]
    exact hI0
  · intro p hp hI
    exact absurd (hlt p hp) ((List.mem_singleton.mp hI) ▸ Nat.lt_irrefl _)
  · rintro i v m₁ nx h tk own hi hv hJ hoff hsub hall hst' F₁ N₁
    obtain ⟨⟨o', ho', _⟩, _⟩ := hst'
    exact turn _ i v m₁ nx h tk own hlt (by simpa using hv) hJ hoff (fun p hp => by simpa using hsub p hp) ⟨o', hall _ (List.mem_cons_self ..) hI0 _ ho'⟩ F₁ N₁
  · intro m₁ nx h tk hJ F₁ N₁
    exact done m₁ nx h tk (by simpa using hJ) F₁ N₁
/-- for x in range(a, b) -/
theorem range_loopO {r : Addr} {a b : Int} {t₀ u₀ v₀ : Tok} {n : Nat} {m₀ : Str → Option Value} {news : List (Addr × Obj)} (J : Nat → (Str → Option Value) → List (Addr × Obj) → Prop)
    (hh : A.handled = none) (hr : IsRange s.heap r a b 1 t₀ u₀ v₀) (hsm : Builtin.Range.small a b 1 = true) (hsz : Builtin.Range.rangeSize a b 1 = ((n : Nat) : Int)) (F : Fr h₀ env.locals s.heap m₀) (N : News h₀ env.locals s.heap news) (hj : J 0 m₀ news)
    (turn : ∀ I i t m₁ news₁ h tk own, i < n → (∀ p ∈ news, p.1 < I) → J i m₁ news₁ → (∀ p ∈ news₁, p.1 ∉ [I]) → (∀ p ∈ own, p.1 = I) → (∃ o, (I, o) ∈ own) →
      Fr h₀ env.locals h (fun y => if y = x then some (.int (a + (i : Int)) t) else m₁ y) → News h₀ env.locals h (news₁ ++ own) →
      wpAny (model prog w) A (execs body env) (LPost h₀ env.locals [I] own (J (i + 1)) { s with heap := h, toks := tk } Q) E { s with heap := h, toks := tk })
    (done : ∀ m₁ news₁ h tk, J n m₁ news₁ → Fr h₀ env.locals h m₁ → News h₀ env.locals h news₁ → Q .next { s with heap := h, toks := tk }) :
    wpAny (model prog w) A (pyIter (.ref r)) (fun it s₂ => LoopAtV prog w A h₀ env x body Q E it s₂) E s := by
  refine wpAny_pyIter_range hr hsm ?_
  have W := LCg.range_walks (prog := prog) (w := w) (I := s.heap.objs.size) hh a n
  have hlt : ∀ p ∈ news, p.1 < s.heap.objs.size := fun p hp => Heap.lt_size (N p hp).1
  have hI0 := next_is_new F
  refine my_loopO J W ?_ ?_ ?_ (by show IsRangeIter _ _ _ _ _; rw [hsz]; simpa using Heap.get?_push_size _ rfl) (F.push _) (fun p hp => ⟨Heap.get?_push_of_some _ (N p hp).1, (N p hp).2⟩) hj ?_ ?_
  · intro hm
    exact absurd F.ns.lt ((List.mem_singleton.mp hm) ▸ Nat.lt_irrefl _)
  · intro b' hb
    rw [List.mem_singleton.mp hb]
    exact hI0
  · intro p hp hI
    exact absurd (hlt p hp) ((List.mem_singleton.mp hI) ▸ Nat.lt_irrefl _)
  · rintro i v m₁ nx h tk own hi ⟨t, rfl⟩ hJ hoff hsub hall hst' F₁ N₁
    exact turn _ i t m₁ nx h tk own hi hlt hJ hoff (fun p hp => by simpa using hsub p hp) ⟨_, hall _ (List.mem_singleton.mpr rfl) hI0 _ hst'⟩ F₁ N₁
  · intro m₁ nx h tk hJ F₁ N₁
    exact done m₁ nx h tk hJ F₁ N₁
end
section
variable {prog : Program} {w : World} {A : Around} {s : Shared} {h₀ : Heap} {L : Addr} {m : Str → Option Value} {env : Env}
/-- a comprehension of any length, by an invariant -/
theorem comp_ind {elt : Expr} {x : Str} {scope : Scope} {cl : List (Str × Addr)} {S : List (Addr × Obj) → Prop} {P : Nat → Value → Prop} {Fin : List Value → List (Addr × Obj) → Prop} (n : Nat) (J : Nat → List Value → List (Addr × Obj) → Prop)
    (step : ∀ i v ys news I oI C oC D m₂ h tk (E' : Value → Shared → Prop), i < n → P i v → J i ys news → LCg.NsObj oC m₂ → m₂ x = some v → Fr h₀ L h m → News h₀ L h ((I, oI) :: (C, oC) :: (D, LCg.lst ys) :: news) → LCg.Off3 I C D news → ((@Ne Nat I C) ∧ (@Ne Nat I D) ∧ (@Ne Nat C D)) →
      wpAny (model prog w) A (eval elt (compEnvC scope cl C env)) (LCg.CompEnd h₀ L m { s with heap := h, toks := tk } I oI C oC D (LCg.lst ys) S (fun y news' => J (i + 1) (ys ++ [y]) news')) E' { s with heap := h, toks := tk })
    (fin : ∀ ys news, J n ys news → Fin ys news) : ∀ k i ys news, i + k = n → J i ys news → LCg.CompRest prog w A h₀ L m env elt x scope cl s S P Fin k i ys news
  | 0, i, ys, news, e, h => LCg.CompRest.zero (fin ys news (by rw [Nat.add_zero] at e; exact e ▸ h))
  | k + 1, i, ys, news, e, h => LCg.CompRest.succ fun v I oI C oC D m₂ hp tk E' hP hC hx F N off ne =>
      wpAny_mono (step i v ys news I oI C oC D m₂ hp tk E' (by omega) hP h hC hx F N off ne) (fun y s₂ q => by
        obtain ⟨h', tk', news', e2, F', N', o', S', J'⟩ := q
        exact ⟨h', tk', news', e2, F', N', o', S', comp_ind n J step fin k (i + 1) (ys ++ [y]) news' (by omega) J'⟩) fun _ _ e => e
end
end Mine
-- ML4
namespace Mine
open PySem PySem.W PyProof.Rows PySem.Spec PySem.Calls
/-- the end of one element: the ledger, and the count of tokens told -/
noncomputable def KEnd (h₀ : Heap) (L : Addr) (m : Str → Option Value) (s₁ : Shared) (I : Addr) (oI : Obj) (C : Addr) (oC : Obj) (D : Addr) (ys : List Value) (J : Value → List (Addr × Obj) → Nat → Prop) (y : Value) (s₂ : Shared) : Prop :=
  ∃ h' tk news', s₂ = { s₁ with heap := h', toks := tk } ∧ Fr h₀ L h' m ∧ News h₀ L h' ((I, oI) :: (C, oC) :: (D, LCg.lst ys) :: news') ∧ LCg.Off3 I C D news' ∧ J y news' tk
theorem KEnd.intro {h₀ : Heap} {L I C D : Addr} {m : Str → Option Value} {s₁ : Shared} {oI oC : Obj} {ys : List Value} {J : Value → List (Addr × Obj) → Nat → Prop} {y : Value} {h' : Heap} {tk : Nat} {all : List (Addr × Obj)}
    (F : Fr h₀ L h' m) (N : News h₀ L h' all) (news' : List (Addr × Obj)) (sub : ∀ p ∈ (I, oI) :: (C, oC) :: (D, LCg.lst ys) :: news', p ∈ all) (off : LCg.Off3 I C D news') (r : J y news' tk) :
    KEnd h₀ L m s₁ I oI C oC D ys J y { s₁ with heap := h', toks := tk } := ⟨h', tk, news', rfl, F, fun p hp => N p (sub p hp), off, r⟩
/-- a comprehension over a range, its items' tokens kept -/
noncomputable def TokSrc (prog : Program) (w : World) (A : Around) (h₀ : Heap) (L : Addr) (m : Str → Option Value) (env : Env) (elt : Expr) (x : Str) (scope : Scope) (cl : List (Str × Addr)) (Q : Value → Shared → Prop) (xv : Value) (s₁ : Shared) : Prop :=
  ∃ (r : Addr) (a b : Int) (t u v : Tok) (n : Nat) (news : List (Addr × Obj)) (J : Nat → List Value → List (Addr × Obj) → Nat → Prop),
    xv = .ref r ∧ A.handled = none ∧ Fr h₀ L s₁.heap m ∧ News h₀ L s₁.heap news ∧ IsRange s₁.heap r a b 1 t u v ∧ Builtin.Range.small a b 1 = true ∧ Builtin.Range.rangeSize a b 1 = ((n : Nat) : Int) ∧ n ≤ sizeLine ∧
    (∀ i ys nx tk tk', tk ≤ tk' → J i ys nx tk → J i ys nx tk') ∧ J 0 [] news s₁.toks ∧
    (∀ i t ys nx I oI C oC D m₂ h tk (E' : Value → Shared → Prop), i < n → J i ys nx tk → LCg.NsObj oC m₂ → m₂ x = some (.int (a + (i : Int)) t) → Fr h₀ L h m → News h₀ L h ((I, oI) :: (C, oC) :: (D, LCg.lst ys) :: nx) → LCg.Off3 I C D nx → ((@Ne Nat I C) ∧ (@Ne Nat I D) ∧ (@Ne Nat C D)) →
      wpAny (model prog w) A (eval elt (compEnvC scope cl C env)) (KEnd h₀ L m { s₁ with heap := h, toks := tk } I oI C oC D ys (fun y nx' tk' => J (i + 1) (ys ++ [y]) nx' tk')) E' { s₁ with heap := h, toks := tk }) ∧
    (∀ D ys nx h tk, J n ys nx tk → Fr h₀ L h m → News h₀ L h ((D, LCg.lst ys) :: nx) → LCg.Off1 D nx → Q (.ref D) { s₁ with heap := h, toks := tk })
section
variable {prog : Program} {w : World} {A : Around} {E : Value → Shared → Prop} {s : Shared} {h₀ : Heap} {L : Addr} {m : Str → Option Value} {env : Env}
theorem block_K {elt iter : Expr} {x : Str} {px : Pos} {scope : Scope} {cl : List (Str × Addr)} {pos : Pos} {s₂ : Shared} {I : Addr} {a : Int} {n : Nat} {news : List (Addr × Obj)} {J : Nat → List Value → List (Addr × Obj) → Nat → Prop} {RR : Value → Addr → Result → Shared → Prop}
    (hh : A.handled = none) (hcell : ∀ y ∈ scope.names, y.2 ≠ .cell) (hkind : scope.kind = .function) (hx : scope.names.lookup x = some .local) (hsz : n ≤ sizeLine)
    (hst : IsRangeIter s₂.heap I a n 1) (F : Fr h₀ L s₂.heap m) (N : News h₀ L s₂.heap news) (hIL : L ≠ I) (hI₀ : h₀.get? I = none) (offI : ∀ p ∈ news, p.1 ≠ I)
    (mono : ∀ i ys nx tk tk', tk ≤ tk' → J i ys nx tk → J i ys nx tk') (hJ : J 0 [] news s₂.toks)
    (step : ∀ i t ys nx I oI C oC D m₂ h tk (E' : Value → Shared → Prop), i < n → J i ys nx tk → LCg.NsObj oC m₂ → m₂ x = some (.int (a + (i : Int)) t) → Fr h₀ L h m → News h₀ L h ((I, oI) :: (C, oC) :: (D, LCg.lst ys) :: nx) → LCg.Off3 I C D nx → ((@Ne Nat I C) ∧ (@Ne Nat I D) ∧ (@Ne Nat C D)) →
      wpAny (model prog w) A (eval elt (compEnvC scope cl C env)) (KEnd h₀ L m { s₂ with heap := h, toks := tk } I oI C oC D ys (fun y nx' tk' => J (i + 1) (ys ++ [y]) nx' tk')) E' { s₂ with heap := h, toks := tk })
    (hRR : ∀ D C h tk m' ys nx, Fr h₀ L h m → News h₀ L h ((D, LCg.lst ys) :: nx) → LCg.Off1 D nx → h.Ns C m' → h₀.get? C = none → C ≠ L → C ≠ D → (∀ p ∈ nx, p.1 ≠ C) → J n ys nx tk → RR (.ref D) C (.ok .next) { s₂ with heap := h, toks := tk }) :
    wpAny (model prog w) A (newList []) (fun acc s₃ => wpAny (model prog w) A (newFunctionEnv scope env.globals cl [] env.qual none .none (some env)) (fun cenv s₄ =>
      codeAny (model prog w) A (.compStart (.ListComp elt [⟨.Name x px, iter, [], 0⟩] scope pos) 0 (.ref I) acc { cenv with scope := relabel scope env }) (RR acc cenv.locals) s₄) E s₃) E s₂ := by
  have W := LCg.range_walks (prog := prog) (w := w) (I := I) hh a n
  refine wpAny_newObj_type (wpAny_newFunctionEnv hcell (by intro y hy; simp at hy) (fun h₁ ns₁ sb₁ => ?_) hkind)
  dsimp only at ns₁ sb₁ ⊢
  -- the three addresses
  have hIs : I < s₂.heap.objs.size := Heap.lt_size hst
  have hLs : L < s₂.heap.objs.size := F.ns.lt
  have hNs : ∀ p ∈ news, p.1 < s₂.heap.objs.size := fun p hp => Heap.lt_size (N p hp).1
  generalize hH : s₂.heap.push { cls := .type "list", dict := none, data := .seq ([] : List Value).toArray } = H at ns₁ sb₁ ⊢
  have hHs : H.objs.size = s₂.heap.objs.size + 1 := by rw [← hH, Heap.size_push]
  have up : ∀ b o, s₂.heap.get? b = some o → h₁.get? b = some o := fun b o e => by
    have hb := Heap.lt_size e
    exact sb₁.extBut b o (Nat.ne_of_lt (hHs ▸ Nat.lt_succ_of_lt hb)) (Heap.get?_push_of_some _ (hH ▸ Heap.get?_push_of_some _ e))
  have hacc : h₁.get? s₂.heap.objs.size = some (LCg.lst []) := sb₁.extBut _ _ (Nat.ne_of_lt (hHs ▸ Nat.lt_succ_self _)) (Heap.get?_push_of_some _ (hH ▸ Heap.get?_push_size _ rfl))
  generalize hD : s₂.heap.objs.size = D at *
  generalize hC : H.objs.size = C at *
  have nowhere : ∀ b, D ≤ b → h₀.get? b = none := fun b hb => by
    cases e : h₀.get? b with
    | none => rfl
    | some o => have := Heap.lt_size (F.keep b o e); rw [hD] at this; exact absurd this (Nat.not_lt.mpr hb)
  have hD₀ := nowhere D (Nat.le_refl _)
  have hDC : D < C := hHs ▸ Nat.lt_succ_self _
  have hC₀ := nowhere C (Nat.le_of_lt hDC)
  have nIC : I ≠ C := Nat.ne_of_lt (Nat.lt_trans hIs hDC)
  have nID : I ≠ D := Nat.ne_of_lt hIs
  have nCD : C ≠ D := Nat.ne_of_gt hDC
  have nCL : C ≠ L := Nat.ne_of_gt (Nat.lt_trans hLs hDC)
  have nDL : D ≠ L := Nat.ne_of_gt hLs
  have off₀ : LCg.Off3 I C D news := LCg.Off3.of fun p hp => ⟨offI p hp, Nat.ne_of_lt (Nat.lt_trans (hNs p hp) hDC), Nat.ne_of_lt (hNs p hp)⟩
  have N₁ : News h₀ L h₁ ((D, LCg.lst []) :: news) := fun p hp => by
    rcases List.mem_cons.mp hp with rfl | hp
    · exact ⟨hacc, nDL, hD₀⟩
    · exact ⟨up _ _ (N p hp).1, (N p hp).2⟩
  have st₁ : IsRangeIter h₁ I (a + ((0 : Nat) : Int) * 1) ((n : Int) - ((0 : Nat) : Int)) 1 := by
    have := up _ _ hst
    show h₁.get? I = _
    simpa using this
  have loop : ∀ s₃ : Shared, s₃ = { s₂ with heap := h₁, toks := s₂.toks + ([] : List (Str × Value)).length } →
      codeAny (model prog w) A (.compLoop (.ListComp elt [⟨.Name x px, iter, [], 0⟩] scope pos) 0 (.ref I) (.ref D) (compEnvC scope cl C env)) (RR (.ref D) C) s₃ := by
    rintro s₃ rfl
    refine codeAny_compLoop_tests (fun k s' => ∃ i h tk ys nx m', s' = { s₂ with heap := h, toks := tk } ∧ i ≤ n ∧ k = n - i ∧ ys.length = i ∧ IsRangeIter h I (a + (i : Nat) * 1) ((n : Int) - (i : Nat)) 1 ∧ Fr h₀ L h m ∧ h.Ns C m' ∧ News h₀ L h ((D, LCg.lst ys) :: nx) ∧ LCg.Off3 I C D nx ∧ J i ys nx tk) ?_ n
      ⟨0, h₁, _, [], news, _, rfl, Nat.zero_le _, rfl, rfl, st₁, F.keeps up, ns₁, N₁, off₀, hJ⟩
    rintro k s' ⟨i, h, tk, ys, nx, m', rfl, hi, rfl, hyl, st, F', C', N', off', J'⟩
    have o3 := off'.mem
    have offL : ∀ p ∈ (D, LCg.lst ys) :: nx, p.1 ≠ I := fun p hp => by
      rcases List.mem_cons.mp hp with rfl | hp
      · exact Ne.symm nID
      · exact (o3 p hp).1
    by_cases hlt : i < n
    · refine wpAny_mono (wpAny_toks (W.item i _ (fun r s₃ => tk ≤ s₃.toks → _) _ hlt st fun v h₂ tk₂ hPv st₂ k₂ => ?_)) (fun r s₃ z => z.2 z.1) fun _ _ z => z.2
      intro hle₂
      obtain ⟨t, rfl⟩ := hPv
      refine wpAny_assign_Name (wpAny_storeName_local (lookup_relabel_local hx) (C'.at' fun o e => k₂ _ o (by simpa using Ne.symm nIC) e) (fun h₃ ns₃ sb₃ => ?_) (by simp [compEnvC, relabel, hkind]))
      refine wpAny_tests_nil ?_
      simp only [if_true]
      have st₃ := W.frame _ _ h₃ st₂ fun b hb o e => sb₃.extBut b o (by rw [List.mem_singleton.mp hb]; exact nIC) e
      obtain ⟨oC, eC, dC⟩ := LCg.ns_obj ns₃
      have F₃ := (LCg.fr_but F' k₂ hIL hI₀).change sb₃ nCL hC₀
      have N₂ := LCg.news_but N' k₂ offL
      have N₃ : News h₀ L h₃ ((I, _) :: (C, oC) :: (D, LCg.lst ys) :: nx) := fun p hp => by
        rcases List.mem_cons.mp hp with rfl | hp
        · exact ⟨st₃, Ne.symm hIL, hI₀⟩
        · rcases List.mem_cons.mp hp with rfl | hp
          · exact ⟨eC, nCL, hC₀⟩
          · refine ⟨sb₃.extBut _ _ ?_ (N₂ p hp).1, (N₂ p hp).2⟩
            rcases List.mem_cons.mp hp with rfl | hp
            · exact Ne.symm nCD
            · exact (o3 p hp).2.1
      refine wpAny_mono (step i t ys nx I _ C oC D _ h₃ _ _ hlt (mono _ _ _ _ _ (Nat.le_succ_of_le hle₂) J') dC (by simp) F₃ N₃ off' ⟨nIC, nID, nCD⟩) (fun y s₄ z => ?_) fun _ _ e => e
      obtain ⟨h₄, tk₄, nx₄, rfl, F₄, N₄, off₄, J₄⟩ := z
      have zI := (N₄ _ (.head _)).1
      have zC := (N₄ _ (.tail _ (.head _))).1
      have zD := (N₄ _ (.tail _ (.tail _ (.head _)))).1
      have o4 := off₄.mem
      refine wpAny_with_toks (n := tk₄) (Nat.le_refl _) (append_at (hsz := by show ys.toArray.size ≤ sizeLine; rw [List.size_toArray, hyl]; exact Nat.le_trans hi hsz) zD fun h₅ sb₅ e₅ => ?_)
      intro hle₅
      refine ⟨n - (i + 1), by omega, i + 1, h₅, _, ys ++ [y], nx₄, _, rfl, hlt, rfl, by rw [List.length_append, hyl]; rfl, sb₅.extBut _ _ nID zI, F₄.change sb₅ nDL hD₀, (dC.ns zC).sameBut sb₅ nCD, fun p hp => ?_, off₄, mono _ _ _ _ _ hle₅ J₄⟩
      rcases List.mem_cons.mp hp with rfl | hp
      · exact ⟨e₅.trans (congrArg some (LCg.lst_snoc ys y)), nDL, hD₀⟩
      · have z := N₄ p (.tail _ (.tail _ (.tail _ hp)))
        exact ⟨sb₅.extBut _ _ (o4 p hp).2.2 z.1, z.2⟩
    · obtain rfl : i = n := Nat.le_antisymm hi (Nat.not_lt.mp hlt)
      refine wpAny_mono (wpAny_toks (W.done _ (fun r s₃ => tk ≤ s₃.toks → _) _ st fun h₂ tk₂ k₂ => ?_)) (fun r s₃ z => z.2 z.1) fun _ _ z => z.2
      intro hle₂
      exact hRR D C h₂ tk₂ _ ys nx (LCg.fr_but F' k₂ hIL hI₀) (LCg.news_but N' k₂ offL) off'.one (C'.at' fun o e => k₂ _ o (by simpa using Ne.symm nIC) e) hC₀ nCL nCD (fun p hp => (o3 p hp).2.1) (mono _ _ _ _ _ hle₂ J')
  exact codeAny_compStart_list (loop _ rfl) (W.self 0 _ _ _ st₁ (loop _ rfl))

theorem ListComp_tok {elt iter : Expr} {x : Str} {px : Pos} {scope : Scope} {cl : List (Str × Addr)} {pos : Pos} {Q : Value → Shared → Prop} (_F₀ : Fr h₀ L s.heap m)
    (hclos : closureFor scope env = pure cl) (hcell : ∀ y ∈ scope.names, y.2 ≠ .cell) (hkind : scope.kind = .function)
    (hnames : ∀ y ∈ scope.names, y.2 = .local → scope.names.lookup y.1 = some .local) (hx : scope.names.lookup x = some .local)
    (h : wpAny (model prog w) A (eval iter env) (TokSrc prog w A h₀ L m env elt x scope cl Q) E s)
    (hs : ∀ x, foldedSetIterable iter env x = pure x := by intro _; rfl) :
    wpAny (model prog w) A (eval (.ListComp elt [⟨.Name x px, iter, [], 0⟩] scope pos) env) Q E s := by
  rw [eval_ListComp]
  refine wpAny_comprehension_free (use := none) rfl hs hclos hkind hnames (wpAny_mono h (fun xv s₁ h₁ => ?_) fun _ _ e => e)
  obtain ⟨r, a, b, t, u, v, n, news, J, rfl, hh, F, N, hr, hsm, hn, hsz, mono, hJ0, step, fin⟩ := h₁
  refine wpAny_pyIter_range hr hsm ?_
  have up : ∀ (q : Addr) (o : Obj), s₁.heap.get? q = some o → (s₁.heap.push { cls := .type "range_iterator", data := .fields #[rawInt a, rawInt (Builtin.Range.rangeSize a b 1), rawInt 1] }).get? q = some o := fun _ o e => Heap.get?_push_of_some _ e
  refine block_K (J := J) hh hcell hkind hx hsz (by rw [← hn]; exact Heap.get?_push_size _ rfl) (F.keeps up) (N.grown up) (Nat.ne_of_lt F.ns.lt) (next_is_new F) (fun p hp => Nat.ne_of_lt (Heap.lt_size (N p hp).1)) mono hJ0 step ?_
  intro D C h tk m' ys nx F' N' o1 hC hC₀ hCL hCD offC hJ
  refine ⟨m', hC, fun h'' sb => fin D ys nx h'' tk hJ (F'.change sb hCL hC₀) (fun p hp => ?_) o1⟩
  refine ⟨sb.extBut _ _ ?_ (N' p hp).1, (N' p hp).2⟩
  rcases List.mem_cons.mp hp with rfl | hp
  · exact Ne.symm hCD
  · exact offC p hp
end
end Mine
-- ML5
namespace Mine
open PySem PySem.W PyProof.Rows PySem.Spec PySem.Calls
noncomputable def NPost (h₀ : Heap) (L : Addr) (wr : List Addr) (own : List (Addr × Obj)) (J : (Str → Option Value) → List (Addr × Obj) → Prop) (s₁ : Shared) (f : Flow) (s₂ : Shared) : Prop :=
  match f with
  | .next => LEnd h₀ L wr own J s₁ s₂
  | _ => False
section
variable {prog : Program} {w : World} {A : Around} {E : Value → Shared → Prop} {s : Shared} {env : Env} {h₀ : Heap} {target : Expr} {body : List Stmt} {Q : Flow → Shared → Prop}
theorem my_ForT {m : Str → Option Value} {pos : Pos} {iter : Expr} (_F : Fr h₀ env.locals s.heap m)
    (h : wpAny (model prog w) A (eval iter env) (fun xv s₁ => Stop (wpAny (model prog w) A (pyIter xv) (fun it s₂ => LoopAtT prog w A h₀ env target body Q E it s₂) E s₁)) E s)
    (hs : ∀ x, foldedSetIterable iter env x = pure x := by intro _; rfl)
    (hE : PassesOwn (model prog w) A env E := by passes_own) :
    wpAny (model prog w) A (exec (.For target iter body [] pos) env) Q E s :=
  For_invT h₀ (wpAny_mono h (fun _ _ h => h.out) fun _ _ e => e) hs hE
theorem my_loopT {I : Addr} {fp wr : List Addr} {n : Nat} {P : Nat → Value → Prop} {St : Nat → Heap → Prop} {m₀ : Str → Option Value} {news : List (Addr × Obj)} (J : Nat → (Str → Option Value) → List (Addr × Obj) → Prop)
    (W : Walks prog w A I fp wr n P St) (hLf : env.locals ∉ fp) (hwr : ∀ b ∈ wr, h₀.get? b = none) (hnw : ∀ p ∈ news, p.1 ∉ wr) (hst : St 0 s.heap) (F : Fr h₀ env.locals s.heap m₀) (N : News h₀ env.locals s.heap news)
    (hgo : ∀ v, letOwnedTupleGo target (.ref I) v = pure ()) (hj : J 0 m₀ news)
    (turn : ∀ i v m₁ news₁ s₁ own, i < n → P i v → J i m₁ news₁ → (∀ p ∈ news₁, p.1 ∉ wr) → (∀ p ∈ own, p.1 ∈ fp) → (∀ b ∈ fp, h₀.get? b = none → ∀ o, s₁.heap.get? b = some o → (b, o) ∈ own) → St (i + 1) s₁.heap →
      Fr h₀ env.locals s₁.heap m₁ → News h₀ env.locals s₁.heap (news₁ ++ own) →
      wpAny (model prog w) A (assign target env v) (fun _ s₃ => wpAny (model prog w) A (execs body env) (NPost h₀ env.locals wr own (J (i + 1)) s₁) E s₃) E s₁)
    (done : ∀ m₁ news₁ h tk, J n m₁ news₁ → Fr h₀ env.locals h m₁ → News h₀ env.locals h news₁ → Q .next { s with heap := h, toks := tk }) :
    LoopAtT prog w A h₀ env target body Q E (.ref I) s := by
  refine ⟨I, fp, wr, n, P, St, m₀, news, J, rfl, W, hLf, hwr, hnw, hst, F, N, fun i s' v Q' _ h => wpAny_of_eq (hgo v) h, hj, ?_, ?_⟩
  · rintro i v m₁ news₁ s₁ own hin hP hJ hoff hsub hat hall hst' F₁ N₁
    refine wpAny_mono (turn i v m₁ news₁ s₁ own hin hP hJ hoff hsub hall hst' F₁ fun p hp => N₁ p (swap_mem hp)) (fun _ s₃ z => wpAny_mono z (fun f s₂ q => ?_) fun _ _ e => e) fun _ _ e => e
    cases f with
    | next =>
      obtain ⟨h', tk, m', news', e, F', N', hw, hm⟩ := q
      exact ⟨rfl, h', tk, m', news', e, F', fun p hp => N' p (swap_mem hp), hw, hm⟩
    | ret v => exact q.elim
    | brk => exact q.elim
    | cont => exact q.elim
  · rintro h' tk m' news' F' N' _ hJ
    exact done m' news' h' tk hJ F' N'
/-- for x in l, x a cell's name, l a list anywhere -/
theorem list_loopC {x : Str} {px : Pos} {l : Addr} {vs : List Value} {m₀ : Str → Option Value} {news : List (Addr × Obj)} (J : Nat → (Str → Option Value) → List (Addr × Obj) → Prop)
    (hh : A.handled = none) (hL : s.heap.IsList l vs.toArray) (hlL : l ≠ env.locals) (F : Fr h₀ env.locals s.heap m₀) (N : News h₀ env.locals s.heap news) (hj : J 0 m₀ news)
    (turn : ∀ I i v m₁ news₁ s₁ own, (∀ p ∈ news, p.1 < I) → vs[i]? = some v → J i m₁ news₁ → (∀ p ∈ news₁, p.1 ∉ [I]) → (∀ p ∈ own, p.1 = I ∨ p.1 = l) → (∃ o, (I, o) ∈ own) →
      Fr h₀ env.locals s₁.heap m₁ → News h₀ env.locals s₁.heap (news₁ ++ own) →
      wpAny (model prog w) A (assign (.Name x px) env v) (fun _ s₃ => wpAny (model prog w) A (execs body env) (NPost h₀ env.locals [I] own (J (i + 1)) s₁) E s₃) E s₁)
    (done : ∀ m₁ news₁ h tk, J vs.length m₁ news₁ → Fr h₀ env.locals h m₁ → News h₀ env.locals h news₁ → Q .next { s with heap := h, toks := tk }) :
    wpAny (model prog w) A (pyIter (.ref l)) (fun it s₂ => LoopAtT prog w A h₀ env (.Name x px) body Q E it s₂) E s := by
  have hll : l < s.heap.objs.size := by obtain ⟨o, ho, _⟩ := hL; exact Heap.lt_size ho
  refine wpAny_pyIter_list hL ?_
  have W := Walks.list (prog := prog) (w := w) hh s.heap.objs.size l (Nat.ne_of_lt hll) vs.toArray
  have hlt : ∀ p ∈ news, p.1 < s.heap.objs.size := fun p hp => Heap.lt_size (N p hp).1
  have hI0 := next_is_new F
  refine my_loopT J W ?_ ?_ ?_ ⟨⟨_, Heap.get?_push_size _ rfl, rfl, rfl⟩, hL.at fun o e => Heap.get?_push_of_some _ e⟩ (F.push _) (fun p hp => ⟨Heap.get?_push_of_some _ (N p hp).1, (N p hp).2⟩) (fun _ => rfl) hj ?_ ?_
  · intro hm
    rcases List.mem_cons.mp hm with e | hm
    · exact absurd F.ns.lt (e ▸ Nat.lt_irrefl _)
    · exact hlL (List.mem_singleton.mp hm).symm
  · intro b' hb
    rw [List.mem_singleton.mp hb]
    exact hI0
  · intro p hp hI
    exact absurd (hlt p hp) ((List.mem_singleton.mp hI) ▸ Nat.lt_irrefl _)
  · rintro i v m₁ nx s₁ own hi hv hJ hoff hsub hall hst' F₁ N₁
    obtain ⟨⟨o', ho', _⟩, _⟩ := hst'
    exact turn _ i v m₁ nx s₁ own hlt (by simpa using hv) hJ hoff (fun p hp => by simpa using hsub p hp) ⟨o', hall _ (List.mem_cons_self ..) hI0 _ ho'⟩ F₁ N₁
  · intro m₁ nx h tk hJ F₁ N₁
    exact done m₁ nx h tk (by simpa using hJ) F₁ N₁
/-- for x in range(a, b), x a cell's name -/
theorem range_loopC {x : Str} {px : Pos} {r : Addr} {a b : Int} {t₀ u₀ v₀ : Tok} {n : Nat} {m₀ : Str → Option Value} {news : List (Addr × Obj)} (J : Nat → (Str → Option Value) → List (Addr × Obj) → Prop)
    (hh : A.handled = none) (hr : IsRange s.heap r a b 1 t₀ u₀ v₀) (hsm : Builtin.Range.small a b 1 = true) (hsz : Builtin.Range.rangeSize a b 1 = ((n : Nat) : Int)) (F : Fr h₀ env.locals s.heap m₀) (N : News h₀ env.locals s.heap news) (hj : J 0 m₀ news)
    (turn : ∀ I i t m₁ news₁ s₁ own, i < n → (∀ p ∈ news, p.1 < I) → J i m₁ news₁ → (∀ p ∈ news₁, p.1 ∉ [I]) → (∀ p ∈ own, p.1 = I) → (∃ o, (I, o) ∈ own) →
      Fr h₀ env.locals s₁.heap m₁ → News h₀ env.locals s₁.heap (news₁ ++ own) →
      wpAny (model prog w) A (assign (.Name x px) env (.int (a + (i : Int)) t)) (fun _ s₃ => wpAny (model prog w) A (execs body env) (NPost h₀ env.locals [I] own (J (i + 1)) s₁) E s₃) E s₁)
    (done : ∀ m₁ news₁ h tk, J n m₁ news₁ → Fr h₀ env.locals h m₁ → News h₀ env.locals h news₁ → Q .next { s with heap := h, toks := tk }) :
    wpAny (model prog w) A (pyIter (.ref r)) (fun it s₂ => LoopAtT prog w A h₀ env (.Name x px) body Q E it s₂) E s := by
  refine wpAny_pyIter_range hr hsm ?_
  have W := LCg.range_walks (prog := prog) (w := w) (I := s.heap.objs.size) hh a n
  have hlt : ∀ p ∈ news, p.1 < s.heap.objs.size := fun p hp => Heap.lt_size (N p hp).1
  have hI0 := next_is_new F
  refine my_loopT J W ?_ ?_ ?_ (by show IsRangeIter _ _ _ _ _; rw [hsz]; simpa using Heap.get?_push_size _ rfl) (F.push _) (fun p hp => ⟨Heap.get?_push_of_some _ (N p hp).1, (N p hp).2⟩) (fun _ => rfl) hj ?_ ?_
  · intro hm
    exact absurd F.ns.lt ((List.mem_singleton.mp hm) ▸ Nat.lt_irrefl _)
  · intro b' hb
    rw [List.mem_singleton.mp hb]
    exact hI0
  · intro p hp hI
    exact absurd (hlt p hp) ((List.mem_singleton.mp hI) ▸ Nat.lt_irrefl _)
  · rintro i v m₁ nx s₁ own hi ⟨t, rfl⟩ hJ hoff hsub hall hst' F₁ N₁
    exact turn _ i t m₁ nx s₁ own hi hlt hJ hoff (fun p hp => by simpa using hsub p hp) ⟨_, hall _ (List.mem_singleton.mpr rfl) hI0 _ hst'⟩ F₁ N₁
  · intro m₁ nx h tk hJ F₁ N₁
    exact done m₁ nx h tk hJ F₁ N₁
end
section
variable {prog : Program} {w : World} {A : Around} {E : Value → Shared → Prop} {s : Shared} {h₀ : Heap} {L : Addr} {m : Str → Option Value}
theorem my_append {D : Addr} {its : Array Value} {n : Nat} {x : Value} {pre rest : List (Addr × Obj)} {Q : Value → Shared → Prop}
    (F : Fr h₀ L s.heap m) (N : News h₀ L s.heap (pre ++ (D, listOf its n) :: rest)) (hsz : its.size ≤ sizeLine) (h1 : ∀ p ∈ pre, p.1 ≠ D) (h2 : ∀ p ∈ rest, p.1 ≠ D)
    (h : ∀ h', Fr h₀ L h' m → News h₀ L h' (pre ++ (D, listOf (its.push x) (n + 1)) :: rest) → Q .none { s with heap := h' }) :
    wpAny (model prog w) A (call (.builtin "list.append") [.ref D, x]) Q E s := by
  have hD := N _ (List.mem_append_right _ (.head _))
  exact append_at (hsz := hsz) hD.1 fun h' hs ho' => h h' (F.change hs hD.2.1 hD.2.2) (N.setAt h1 h2 hs ho')
end
section
variable {prog : Program} {w : World} {A : Around} {E : Value → Shared → Prop} {s : Shared} {env : Env} {h₀ : Heap} {x : Str} {body : List Stmt} {Q : Flow → Shared → Prop}
/-- a loop over a text, sign by sign; what is the loop's own is the iterator -/
theorem text_loopO {xt : Str} {tx : Tok} {m₀ : Str → Option Value} {news : List (Addr × Obj)} (J : Nat → (Str → Option Value) → List (Addr × Obj) → Prop)
    (hh : A.handled = none) (F : Fr h₀ env.locals s.heap m₀) (N : News h₀ env.locals s.heap news) (hj : J 0 m₀ news)
    (turn : ∀ I i c t m₁ news₁ h tk own, (∀ p ∈ news, p.1 < I) → xt.cps[i]? = some c → J i m₁ news₁ → (∀ p ∈ news₁, p.1 ∉ [I]) → (∀ p ∈ own, p.1 = I) → (∃ o, (I, o) ∈ own) →
      Fr h₀ env.locals h (fun y => if y = x then some (.str ⟨#[c]⟩ t) else m₁ y) → News h₀ env.locals h (news₁ ++ own) →
      wpAny (model prog w) A (execs body env) (LPost h₀ env.locals [I] own (J (i + 1)) { s with heap := h, toks := tk } Q) E { s with heap := h, toks := tk })
    (done : ∀ m₁ news₁ h tk, J xt.cps.size m₁ news₁ → Fr h₀ env.locals h m₁ → News h₀ env.locals h news₁ → Q .next { s with heap := h, toks := tk }) :
    wpAny (model prog w) A (pyIter (.str xt tx)) (fun it s₂ => LoopAtV prog w A h₀ env x body Q E it s₂) E s := by
  refine my_pyIter_str fun o St hW hob hst => ?_
  have W := hW A hh
  have hlt : ∀ p ∈ news, p.1 < s.heap.objs.size := fun p hp => Heap.lt_size (N p hp).1
  have hI0 := next_is_new F
  refine my_loopO J W ?_ ?_ ?_ hst (F.push _) (fun p hp => ⟨Heap.get?_push_of_some _ (N p hp).1, (N p hp).2⟩) hj ?_ ?_
  · intro hm
    exact absurd F.ns.lt ((List.mem_singleton.mp hm) ▸ Nat.lt_irrefl _)
  · intro b' hb
    rw [List.mem_singleton.mp hb]
    exact hI0
  · intro p hp hI
    exact absurd (hlt p hp) ((List.mem_singleton.mp hI) ▸ Nat.lt_irrefl _)
  · rintro i v m₁ nx h tk own hi ⟨c, u, hc, rfl⟩ hJ hoff hsub hall hst' F₁ N₁
    obtain ⟨o', ho'⟩ := hob _ _ hst'
    exact turn _ i c u m₁ nx h tk own hlt hc hJ hoff (fun p hp => by simpa using hsub p hp) ⟨o', hall _ (List.mem_singleton.mpr rfl) hI0 _ ho'⟩ F₁ N₁
  · intro m₁ nx h tk hJ F₁ N₁
    exact done m₁ nx h tk hJ F₁ N₁
end
theorem allLt_mem {d : Addr} : ∀ {l : List (Addr × Obj)}, AllLt d l → ∀ p ∈ l, p.1 < d
  | [], _, p, h => nomatch h
  | _ :: _, x, p, h => by
    rcases List.mem_cons.mp h with rfl | h
    · exact x.1
    · exact allLt_mem x.2 p h
theorem news_apart {h₀ h : Heap} {L a b : Addr} {oa ob : Obj} {l : List (Addr × Obj)} (N : News h₀ L h l) (ha : (a, oa) ∈ l) (hb : (b, ob) ∈ l) (hc : oa.cls ≠ ob.cls) : a ≠ b := fun e => by
  have x := (N _ ha).1
  have y := (N _ hb).1
  dsimp only at x y
  rw [e] at x
  rw [x] at y
  exact hc (congrArg Obj.cls (Option.some.inj y))
end Mine
-- ML6
namespace Mine
open PySem PySem.W PyProof.Rows PySem.Spec PySem.Calls
/-- a loop over a list, the count of tokens kept -/
noncomputable def KLoop (prog : Program) (w : World) (A : Around) (h₀ : Heap) (env : Env) (x : Str) (px : Pos) (body : List Stmt) (Q : Flow → Shared → Prop) (E : Value → Shared → Prop) (xv : Value) (s₁ : Shared) : Prop :=
  ∃ (l : Addr) (vs : List Value) (m₀ : Str → Option Value) (news : List (Addr × Obj)) (J : Nat → (Str → Option Value) → List (Addr × Obj) → Prop),
    xv = .ref l ∧ A.handled = none ∧ s₁.heap.IsList l vs.toArray ∧ l ≠ env.locals ∧ Fr h₀ env.locals s₁.heap m₀ ∧ News h₀ env.locals s₁.heap news ∧ J 0 m₀ news ∧
    (∀ I i v m₁ nx h tk own, s₁.toks ≤ tk → (∀ p ∈ news, p.1 < I) → vs[i]? = some v → J i m₁ nx → (∀ p ∈ nx, p.1 ∉ [I]) → (∀ p ∈ own, p.1 = I ∨ p.1 = l) → (∃ o, (I, o) ∈ own) →
      Fr h₀ env.locals h m₁ → News h₀ env.locals h (nx ++ own) →
      wpAny (model prog w) A (assign (.Name x px) env v) (fun _ s₃ => wpAny (model prog w) A (execs body env) (NPost h₀ env.locals [I] own (J (i + 1)) { s₁ with heap := h, toks := tk }) E s₃) E { s₁ with heap := h, toks := tk }) ∧
    (∀ m₁ nx h tk, s₁.toks ≤ tk → J vs.length m₁ nx → Fr h₀ env.locals h m₁ → News h₀ env.locals h nx → Q .next { s₁ with heap := h, toks := tk })
section
variable {prog : Program} {w : World} {A : Around} {E : Value → Shared → Prop} {s : Shared} {env : Env} {h₀ : Heap} {body : List Stmt} {Q : Flow → Shared → Prop}
theorem For_listK {x : Str} {px pos : Pos} {iter : Expr} {m : Str → Option Value} (_F : Fr h₀ env.locals s.heap m)
    (h : wpAny (model prog w) A (eval iter env) (fun xv s₁ => Stop (KLoop prog w A h₀ env x px body Q E xv s₁)) E s)
    (hs : ∀ x, foldedSetIterable iter env x = pure x := by intro _; rfl)
    (hE : PassesOwn (model prog w) A env E := by passes_own) :
    wpAny (model prog w) A (exec (.For (.Name x px) iter body [] pos) env) Q E s := by
  refine wpAny_For (wpAny_mono h (fun xv s₁ h₁ => ?_) fun _ _ e => e) hs
  obtain ⟨l, vs, m₀, news, J, rfl, hh, hL, hlL, F, N, hj, turn, done⟩ := h₁.out
  have hll : l < s₁.heap.objs.size := by obtain ⟨o, ho, _⟩ := hL; exact Heap.lt_size ho
  refine wpAny_pyIter_list hL ?_
  have W := Walks.list (prog := prog) (w := w) hh s₁.heap.objs.size l (Nat.ne_of_lt hll) vs.toArray
  have hlt : ∀ p ∈ news, p.1 < s₁.heap.objs.size := fun p hp => Heap.lt_size (N p hp).1
  have hI0 := next_is_new F
  have hIL : env.locals ≠ s₁.heap.objs.size := Nat.ne_of_lt F.ns.lt
  have st0 : (s₁.heap.push { cls := .type "list_iterator", data := .fields #[.ref l, .int 0 0] }).IsListIter s₁.heap.objs.size l 0 ∧ (s₁.heap.push { cls := .type "list_iterator", data := .fields #[.ref l, .int 0 0] }).IsList l vs.toArray :=
    ⟨⟨_, Heap.get?_push_size _ rfl, rfl, rfl⟩, hL.at fun o e => Heap.get?_push_of_some _ e⟩
  have F1 := F.push { cls := .type "list_iterator", data := .fields #[.ref l, .int 0 0] }
  have N1 : News h₀ env.locals (s₁.heap.push { cls := .type "list_iterator", data := .fields #[.ref l, .int 0 0] }) news := fun p hp => ⟨Heap.get?_push_of_some _ (N p hp).1, (N p hp).2⟩
  generalize hII : s₁.heap.objs.size = I at *
  have hLf : env.locals ∉ [I, l] := by
    intro hm
    rcases List.mem_cons.mp hm with e | hm
    · exact hIL e
    · exact hlL (List.mem_singleton.mp hm).symm
  refine codeAny_forLoop_any (fun k s' => ∃ i h tk m nx, s' = { s₁ with heap := h, toks := tk } ∧ i ≤ vs.length ∧ k = vs.length - i ∧ s₁.toks ≤ tk ∧ (h.IsListIter I l i ∧ h.IsList l vs.toArray) ∧ Fr h₀ env.locals h m ∧ News h₀ env.locals h nx ∧ (∀ p ∈ nx, p.1 ∉ [I]) ∧ J i m nx) ?_ vs.length
    ⟨0, _, _, m₀, news, rfl, Nat.zero_le _, rfl, Nat.le_refl _, st0, F1, N1, fun p hp hI => absurd (hlt p hp) ((List.mem_singleton.mp hI) ▸ Nat.lt_irrefl _), hj⟩
  rintro k s' ⟨i, h, tk, m, nx, rfl, hi, rfl, hle, st, F', N', off, J'⟩
  have Fk : ∀ h₂ : Heap, (∀ b o, b ∉ [I] → h.get? b = some o → h₂.get? b = some o) → Fr h₀ env.locals h₂ m ∧ News h₀ env.locals h₂ nx := fun h₂ k₂ =>
    ⟨LCg.fr_but F' k₂ hIL hI0, LCg.news_but N' k₂ fun p hp e => off p hp (List.mem_singleton.mpr e)⟩
  by_cases hlt' : i < vs.length
  · refine wpAny_with_toks (n := s₁.toks) hle (W.item i _ _ _ (by simpa using hlt') st fun v h₂ tk₂ hv st₂ k₂ => ?_)
    intro hle₂
    obtain ⟨F₂, N₂⟩ := Fk h₂ k₂
    have Nown : News h₀ env.locals h₂ (ownOf h₀ [I, l] h₂) := news_ownOf hLf
    have hst2 := st₂
    obtain ⟨⟨oI, eI, _⟩, _⟩ := st₂
    refine wpAny_of_eq (show letOwnedTupleGo (.Name x px) (.ref I) v = pure () from rfl) ?_
    refine wpAny_mono (wpAny_passesOwn hE (wpAny_mono (wpAny_toks_of (n := s₁.toks) hle₂ (turn I i v m nx h₂ tk₂ (ownOf h₀ [I, l] h₂) hle₂ hlt (by simpa using hv) J' off (fun p hp => by simpa using ownOf_sub p hp) ⟨oI, mem_ownOf (List.mem_cons_self ..) hI0 eI⟩ F₂ fun p hp => (List.mem_append.mp hp).elim (N₂ p) (Nown p))) (fun _ _ z => z) fun _ _ z => z.2))
      (fun _ s₃ z => ?_) fun _ _ e => e
    refine wpAny_mono (wpAny_passesOwn hE (wpAny_mono (wpAny_toks_of (n := s₁.toks) z.1 z.2) (fun _ _ z => z) fun _ _ z => z.2)) (fun f s₂ q => ?_) fun _ _ e => e
    obtain ⟨hle4, q⟩ := q
    cases f with
    | next =>
      obtain ⟨h', tk', m', news', rfl, F₄, N₄, hw, hm⟩ := q
      refine ⟨vs.length - (i + 1), by omega, i + 1, h', tk', m', news', rfl, hlt', rfl, hle4, W.frame _ _ _ hst2 fun b hb o e => ?_, F₄, fun p hp => N₄ p (List.mem_append_left _ hp), hw, hm⟩
      cases hn : h₀.get? b with
      | some o₀ =>
        have e₀ := F₂.keep b o₀ hn
        rw [e] at e₀
        rw [Option.some.inj e₀]
        exact F₄.keep b o₀ hn
      | none => exact (N₄ _ (List.mem_append_right _ (mem_ownOf hb hn e))).1
    | ret v => exact q.elim
    | brk => exact q.elim
    | cont => exact q.elim
  · obtain rfl : i = vs.length := Nat.le_antisymm hi (Nat.not_lt.mp hlt')
    refine wpAny_with_toks (n := s₁.toks) hle (W.done _ _ _ (by simpa using st) fun h₂ tk₂ k₂ => ?_)
    intro hle₂
    obtain ⟨F₂, N₂⟩ := Fk h₂ k₂
    exact wpAny_execs_nil (done m nx h₂ tk₂ hle₂ J' F₂ N₂)
end
end Mine
-- ML7
namespace Mine
open PySem PySem.W PyProof.Rows PySem.Spec PySem.Calls
/-- y = a comprehension over a range, its items' tokens kept -/
noncomputable def TokSrcA (prog : Program) (w : World) (A : Around) (h₀ : Heap) (L : Addr) (m : Str → Option Value) (env : Env) (elt : Expr) (x : Str) (scope : Scope) (cl : List (Str × Addr)) (y : Str) (Q : Flow → Shared → Prop) (xv : Value) (s₁ : Shared) : Prop :=
  ∃ (r : Addr) (a b : Int) (t u v : Tok) (n : Nat) (news : List (Addr × Obj)) (J : Nat → List Value → List (Addr × Obj) → Nat → Prop),
    xv = .ref r ∧ A.handled = none ∧ Fr h₀ L s₁.heap m ∧ News h₀ L s₁.heap news ∧ IsRange s₁.heap r a b 1 t u v ∧ Builtin.Range.small a b 1 = true ∧ Builtin.Range.rangeSize a b 1 = ((n : Nat) : Int) ∧ n ≤ sizeLine ∧
    (∀ i ys nx tk tk', tk ≤ tk' → J i ys nx tk → J i ys nx tk') ∧ J 0 [] news s₁.toks ∧
    (∀ i t ys nx I oI C oC D m₂ h tk (E' : Value → Shared → Prop), i < n → J i ys nx tk → LCg.NsObj oC m₂ → m₂ x = some (.int (a + (i : Int)) t) → Fr h₀ L h m → News h₀ L h ((I, oI) :: (C, oC) :: (D, LCg.lst ys) :: nx) → LCg.Off3 I C D nx → ((@Ne Nat I C) ∧ (@Ne Nat I D) ∧ (@Ne Nat C D)) →
      wpAny (model prog w) A (eval elt (compEnvC scope cl C env)) (KEnd h₀ L m { s₁ with heap := h, toks := tk } I oI C oC D ys (fun y nx' tk' => J (i + 1) (ys ++ [y]) nx' tk')) E' { s₁ with heap := h, toks := tk }) ∧
    (∀ D ys nx h tk, J n ys nx tk → Fr h₀ L h (fun z => if z = y then some (.ref D) else m z) → News h₀ L h ((D, LCg.lst ys) :: nx) → LCg.Off1 D nx → Q .next { s₁ with heap := h, toks := tk })
section
variable {prog : Program} {w : World} {A : Around} {E : Value → Shared → Prop} {s : Shared} {h₀ : Heap} {L : Addr} {m : Str → Option Value} {env : Env}
theorem Assign_ListComp_tok {elt iter : Expr} {x y : Str} {px py : Pos} {scope : Scope} {cl : List (Str × Addr)} {pos spos : Pos} {Q : Flow → Shared → Prop} (_F₀ : Fr h₀ L s.heap m) (hLe : env.locals = L)
    (hsw : swapsWith (.ListComp elt [⟨.Name x px, iter, [], 0⟩] scope pos) (some (.Name y py)) spos.line env = pure true)
    (hclos : closureFor scope env = pure cl) (hcell : ∀ z ∈ scope.names, z.2 ≠ .cell) (hkind : scope.kind = .function)
    (hnames : ∀ z ∈ scope.names, z.2 = .local → scope.names.lookup z.1 = some .local) (hx : scope.names.lookup x = some .local)
    (hy : env.kindOf y = some .local) (hp : (env.scope.kind == .class || (env.scope.kind == .module && env.locals != env.globals)) = false)
    (h : wpAny (model prog w) A (eval iter env) (TokSrcA prog w A h₀ L m env elt x scope cl y Q) E s)
    (hs : ∀ x, foldedSetIterable iter env x = pure x := by intro _; rfl) :
    wpAny (model prog w) A (exec (.Assign [.Name y py] (.ListComp elt [⟨.Name x px, iter, [], 0⟩] scope pos) spos) env) Q E s := by
  subst hLe
  rw [exec_Assign_Name_used _ _ _ _ hsw]
  refine wpAny_bind (wpAny_standAt (wpAny_bind ?_))
  show wpAny _ A (do let _ ← comprehension (.ListComp elt [⟨.Name x px, iter, [], 0⟩] scope pos) scope env _ (newList []) false (eval iter env) (some (assign (.Name y py) env))) _ _ s
  refine wpAny_bind (wpAny_mono (wpAny_comprehension_free (use := some (assign (.Name y py) env)) (Q := fun _ s' => Q .next s') rfl hs hclos hkind hnames
    (wpAny_mono h (fun xv s₁ h₁ => ?_) fun _ _ e => e)) (fun _ s' hq => wpAny_pure (wpAny_pure hq)) fun _ _ e => e)
  obtain ⟨r, a, b, t, u, v, n, news, J, rfl, hh, F, N, hr, hsm, hn, hsz, mono, hJ0, step, fin⟩ := h₁
  refine wpAny_pyIter_range hr hsm ?_
  have up : ∀ (q : Addr) (o : Obj), s₁.heap.get? q = some o → (s₁.heap.push { cls := .type "range_iterator", data := .fields #[rawInt a, rawInt (Builtin.Range.rangeSize a b 1), rawInt 1] }).get? q = some o := fun _ o e => Heap.get?_push_of_some _ e
  refine block_K (J := J) hh hcell hkind hx hsz (by rw [← hn]; exact Heap.get?_push_size _ rfl) (F.keeps up) (N.grown up) (Nat.ne_of_lt F.ns.lt) (next_is_new F) (fun p hp => Nat.ne_of_lt (Heap.lt_size (N p hp).1)) mono hJ0 step ?_
  intro D C h' tk m' ys nx F' N' o1 hC hC₀ hCL hCD offC hJ
  show wpAny _ A (assign (.Name y py) env (.ref D)) _ _ _
  refine wpAny_assign_Name (wpAny_storeName_local hy F'.ns (fun h₂ hn₂ hs₂ => ?_) hp)
  have F₂ := F'.set hn₂ hs₂
  have N₂ := N'.set hs₂
  refine ⟨m', hC.sameBut hs₂ hCL, fun h'' sb => fin D ys nx h'' _ (mono _ _ _ _ _ (Nat.le_succ _) hJ) (F₂.change sb hCL hC₀) (fun p hp => ?_) o1⟩
  refine ⟨sb.extBut _ _ ?_ (N₂ p hp).1, (N₂ p hp).2⟩
  rcases List.mem_cons.mp hp with rfl | hp
  · exact Ne.symm hCD
  · exact offC p hp
end
end Mine
-- ML8
namespace Mine
open PySem PySem.W PyProof.Rows PySem.Spec PySem.Calls
open AutoSeq1 (wpAny_loadPart')
section
variable {prog : Program} {w : World} {A : Around} {E : Value → Shared → Prop} {s : Shared}
theorem nextOf_tup_item {it t : Addr} {i : Nat} {items} {x : Value} {Q : Value → Shared → Prop} (hit : IsTupIter s.heap it t i)
    (hl : IsTup s.heap t items) (hx : items[i]? = some x)
    (hQ : ∀ h', IsTupIter h' it t (i + 1) → Heap.SameBut it s.heap h' → Q x { s with heap := h' }) :
    wpAny (model prog w) A (Builtin.SmallTypes.nextOf (.ref it)) Q E s := by
  obtain ⟨o, ho, hc, hd⟩ := id hit
  obtain ⟨ol, hol, _, nl, hdl⟩ := hl
  unfold Builtin.SmallTypes.nextOf
  refine wpAny_bind (wpAny_callSpecial?_slot (name := Str.ofString "__next__") hit.typeIs slot_tupleiter_next (wpAny_call_entry slot_tupleiter_next hit.typeIs entry_tupleiter_next ?_ (args_tupleiter_next _)))
  show wpAny _ _ (field (.ref it) 0 >>= _) _ _ s
  refine wpAny_bind (wpAny_field ho hd (x := .ref t) rfl ?_)
  show wpAny _ _ (if (Value.ref t == Value.none) = true then _ else _) _ _ s
  rw [if_neg (show ¬ ((Value.ref t == Value.none) = true) from Bool.false_ne_true)]
  show wpAny _ _ (field (.ref it) 1 >>= _) _ _ s
  refine wpAny_bind (wpAny_field ho hd (x := .int i 0) rfl ?_)
  show wpAny _ _ (seqItems? (.ref t) >>= _) _ _ s
  refine wpAny_bind (wpAny_seqItems hol hdl ?_)
  simp only [Int.toNat_natCast, hx]
  refine wpAny_bind (wpAny_setField ho hd (by simp) (wpAny_pure ⟨x, rfl, wpAny_pure (hQ _ ?_ (Heap.SameBut.update ..))⟩))
  exact ⟨_, Heap.get?_update_self _ ho (Obj.isFreed_of_fields (Obj.data_mapFields hd _)), (Obj.cls_mapFields ..).trans hc, by
    rw [Obj.data_mapFields hd]; simp [rawInt]⟩
theorem nextOf_tup_end {it t : Addr} {i : Nat} {items} {Q : Value → Shared → Prop} (hh : A.handled = none)
    (hit : IsTupIter s.heap it t i) (hl : IsTup s.heap t items) (hx : items[i]? = none)
    (hE : ∀ h' e, Heap.ExtBut it s.heap h' → (∃ o, h'.get? e = some o ∧ o.cls = .type "StopIteration") → E (.ref e) { s with heap := h' }) :
    wpAny (model prog w) A (Builtin.SmallTypes.nextOf (.ref it)) Q E s := by
  obtain ⟨o, ho, hc, hd⟩ := id hit
  obtain ⟨ol, hol, _, nl, hdl⟩ := hl
  unfold Builtin.SmallTypes.nextOf
  refine wpAny_bind (wpAny_callSpecial?_slot (name := Str.ofString "__next__") hit.typeIs slot_tupleiter_next (wpAny_call_entry slot_tupleiter_next hit.typeIs entry_tupleiter_next ?_ (args_tupleiter_next _)))
  show wpAny _ _ (field (.ref it) 0 >>= _) _ _ s
  refine wpAny_bind (wpAny_field ho hd (x := .ref t) rfl ?_)
  show wpAny _ _ (if (Value.ref t == Value.none) = true then _ else _) _ _ s
  rw [if_neg (show ¬ ((Value.ref t == Value.none) = true) from Bool.false_ne_true)]
  show wpAny _ _ (field (.ref it) 1 >>= _) _ _ s
  refine wpAny_bind (wpAny_field ho hd (x := .int i 0) rfl ?_)
  show wpAny _ _ (seqItems? (.ref t) >>= _) _ _ s
  refine wpAny_bind (wpAny_seqItems hol hdl ?_)
  simp only [Int.toNat_natCast, hx]
  refine wpAny_bind (wpAny_rule (wpAny_bind (wpAny_setField ho hd (by simp) ?_)))
  show wpAny _ _ (newExc (.type "StopIteration") [] >>= _) _ _ _
  refine wpAny_bind ?_
  simp only [newExc, newTuple]
  refine wpAny_bind (wpAny_newObj_type ?_ (by size_fits))
  refine wpAny_bind (m := firstArgMember _ _) (wpAny_of_eq (a := Value.none) (by first | rfl | (simp only [firstArgMember]; rfl)) ?_)
  refine wpAny_newObj_type ?_ (by size_fits)
  simp only [raiseNew]
  refine wpAny_bind (wpAny_handled ?_)
  first | rw [show A.in1.handled = none from hh] | rw [hh]
  refine wpAny_bind (wpAny_pure (wpAny_throw ?_))
  exact hE _ _ (((Heap.SameBut.update ..).extBut.push _).push _) ⟨_, Heap.get?_push_size _ rfl, rfl⟩
theorem tupIter_at {h h' : Heap} {a t : Addr} {i : Nat} (x : IsTupIter h a t i) (e : ∀ o, h.get? a = some o → h'.get? a = some o) : IsTupIter h' a t i := let ⟨o, ho, r⟩ := x; ⟨o, e _ ho, r⟩
theorem tup_at {h h' : Heap} {t : Addr} {its : Array Value} (x : IsTup h t its) (e : ∀ o, h.get? t = some o → h'.get? t = some o) : IsTup h' t its := let ⟨o, ho, r⟩ := x; ⟨o, e _ ho, r⟩
theorem draws_tup (hh : A.handled = none) (it l : Addr) (hne : l ≠ it) (items : Array Value) :
    Draws prog w A it [it, l] items.size (fun i v => items[i]? = some v) (fun i h => IsTupIter h it l i ∧ IsTup h l items) where
  live := fun _ _ st => let ⟨o, ho, _⟩ := st.1; ⟨o, ho⟩
  frame := fun _ _ _ st hk => ⟨tupIter_at st.1 fun o e => hk it (by simp) o e, tup_at st.2 fun o e => hk l (by simp) o e⟩
  item := fun i s Q E hi st hQ => by
    refine nextOf_tup_item st.1 st.2 (x := items[i]) (by simp [hi]) fun h' hit' hs' => ?_
    exact hQ _ h' s.toks (by simp [hi]) ⟨hit', st.2.extBut hs'.extBut hne⟩ hs'
  done := fun s Q E st hE => nextOf_tup_end hh st.1 st.2 (by simp) hE
end
theorem meets_enum_newT (l : Addr) (items : Array Value) (n : Nat) (dct : Option Addr) (sl : Array (Option Value)) :
    Meets (Builtin.«enumerate.__new__» ⟨[.type "enumerate", .ref l], []⟩) (fun _ R s => s.heap.get? l = some { cls := .type "tuple", dict := dct, data := .seq items n, slots := sl } ∧
      R (.ok (.ret (.ref (s.heap.push { cls := .type "tuple_iterator", data := .fields #[.ref l, .int 0 0] }).objs.size)))
        { s with heap := (s.heap.push { cls := .type "tuple_iterator", data := .fields #[.ref l, .int 0 0] }).push { cls := .type "enumerate", data := .fields #[.none, .bool false, .ref s.heap.objs.size, rawInt 0, .none, .none] } }) :=
  .of_wp fun prog w A R s h => by
    obtain ⟨hp, g, d, tk, os⟩ := s; obtain ⟨hl, h⟩ := h
    have hsub := sub_enumerate
    have hL : IsTup (Shared.heap ⟨hp, g, d, tk, os⟩) l items := ⟨_, hl, rfl, n, rfl⟩
    wp_walk using wpAny_loadPart' hl
    refine wpAny_stack_any fun st => wpAny_pure ?_
    split
    · rename_i c _ _ _ _ _
      cases (c == Value.type "enumerate")
      · wp_walk using wpAny_loadPart' hl, iter_tuple hL
        exact ⟨_, rfl, h⟩
      · wp_walk using wpAny_loadPart' hl, iter_tuple hL
        exact ⟨_, rfl, h⟩
    · wp_walk using wpAny_loadPart' hl, iter_tuple hL
      exact ⟨_, rfl, h⟩
section
variable {prog : Program} {w : World} {A : Around} {E : Value → Shared → Prop} {s : Shared} {h₀ : Heap}
theorem k_enumT {l : Addr} {items : Array Value} {m : Str → Option Value} {L : Addr} {news : List (Addr × Obj)} {Q : Value → Shared → Prop} (hL : IsTup s.heap l items) (Fm : Fr h₀ L s.heap m) (N : News h₀ L s.heap news)
    (h : ∀ h' it, IsEnum h' (it + 1) it 0 .none → IsTupIter h' it l 0 → IsTup h' l items → (∀ p ∈ news, p.1 < it) → L < it → l < it → Fr h₀ L h' m → News h₀ L h' news → Q (.ref (it + 1)) { s with heap := h' }) :
    wpAny (model prog w) A (call (.type "enumerate") [.ref l]) Q E s := by
  have hL' := hL
  obtain ⟨⟨c, dct, dt, sl⟩, hl, hc, n, hd⟩ := hL
  replace hc : c = .type "tuple" := hc
  replace hd : dt = .seq items n := hd
  subst hc hd
  refine callType_new F.called_enumerate (by decide) (F.typeCall_enumerate_1 _) (F.newCall_enumerate_1 _) (fun obj => F.args_object_init_2 obj _) F.entry_enumerate_new
    (meets_enum_newT l items n dct sl) ⟨hl, ?_⟩
  have hz : (s.heap.push { cls := .type "tuple_iterator", data := .fields #[.ref l, .int 0 0] }).objs.size = s.heap.objs.size + 1 := Heap.size_push ..
  show _ ∧ _
  rw [hz]
  have he : IsEnum ((s.heap.push { cls := .type "tuple_iterator", data := .fields #[.ref l, .int 0 0] }).push
      { cls := .type "enumerate", data := .fields #[.none, .bool false, .ref s.heap.objs.size, rawInt 0, .none, .none] }) (s.heap.objs.size + 1) s.heap.objs.size 0 .none := by
    have := Heap.get?_push_size (s.heap.push { cls := .type "tuple_iterator", data := .fields #[.ref l, .int 0 0] })
      (o := { cls := .type "enumerate", data := .fields #[.none, .bool false, .ref s.heap.objs.size, rawInt 0, .none, .none] }) rfl
    rw [hz] at this; exact this
  exact ⟨⟨_, he, rfl⟩, h _ _ he ⟨_, Heap.get?_push_of_some _ (Heap.get?_push_size _ rfl), rfl, rfl⟩ ((hL'.push _).push _) (fun p hp => Heap.lt_size (N p hp).1) Fm.ns.lt (Heap.lt_size hl) ((Fm.push _).push _) fun p hp => ⟨Heap.get?_push_of_some _ (Heap.get?_push_of_some _ (N p hp).1), (N p hp).2⟩⟩
end
/-- the end of one element over enumerate: the ledger as it was -/
noncomputable def EOut (h₀ : Heap) (L : Addr) (m : Str → Option Value) (s : Shared) (all : List (Addr × Obj)) (P : Prop) (s' : Shared) : Prop :=
  ∃ h' tk', s' = { s with heap := h', toks := tk' } ∧ Fr h₀ L h' m ∧ News h₀ L h' all ∧ P
theorem EOut.intro {h₀ h' : Heap} {L : Addr} {m : Str → Option Value} {s : Shared} {all : List (Addr × Obj)} {P : Prop} {tk' : Nat} (F : Fr h₀ L h' m) (N : News h₀ L h' all) (p : P) : EOut h₀ L m s all P { s with heap := h', toks := tk' } := ⟨h', tk', rfl, F, N, p⟩
section
variable {prog : Program} {w : World} {A : Around} {E : Value → Shared → Prop} {s : Shared} {h₀ : Heap} {L : Addr} {m : Str → Option Value} {env : Env}
theorem compLoop_gen {elt target iter : Expr} {ifs : List Expr} {scope : Scope} {pos : Pos} {it acc : Value} {env : Env} {R : Result → Shared → Prop} (I : Nat → Shared → Prop)
    (turn : ∀ n s, I n s → wpAny (model prog w) A (pyNext it) (fun r s₁ => match r with
      | none => R (.ok .next) s₁
      | some v => wpAny (model prog w) A (letOwnedTupleGo target it v) (fun _ s₁' => wpAny (model prog w) A (assign target env v) (fun _ s₂ =>
          wpAny (model prog w) A (forIn ifs true fun c r => if r = true then do let ok ← isTrue c env (eval c env); pure (ForInStep.yield ok) else pure (ForInStep.yield r)) (fun ok s₃ =>
            if ok = true then wpAny (model prog w) A (eval elt env) (fun x s₄ =>
              wpAny (model prog w) A (call (.builtin "list.append") [acc, x]) (fun _ s₅ => ∃ m, m < n ∧ I m s₅) (notedBy (model prog w) A env fun e s' => R (.error e) s') s₄) (notedBy (model prog w) A env fun e s' => R (.error e) s') s₃
            else ∃ m, m < n ∧ I m s₃) (notedBy (model prog w) A env fun e s' => R (.error e) s') s₂)
          (notedBy (model prog w) A env fun e s' => R (.error e) s') s₁') (notedBy (model prog w) A env fun e s' => R (.error e) s') s₁) (notedBy (model prog w) A env fun e s' => R (.error e) s') s)
    (n : Nat) (h : I n s) : codeAny (model prog w) A (.compLoop (.ListComp elt [⟨target, iter, ifs, 0⟩] scope pos) 0 it acc env) R s := by
  refine codeAny_loop rfl I (fun n s hI => ?_) n h
  show wpAny _ A ((compTurn (.ListComp elt [⟨target, iter, ifs, 0⟩] scope pos) 0 it acc env).onRaise (fun x => do noteFrame x env; theTreesLotGoes x)) _ _ s
  refine wpAny_noted ?_
  rw [compTurn_list]
  refine wpAny_bind (wpAny_standAt (wpAny_bind (wpAny_mono (turn n s hI) (fun r s₁ h₁ => ?_) fun _ _ h' => h')))
  cases r with
  | none => exact wpAny_pure h₁
  | some v =>
    refine wpAny_bind (wpAny_mono h₁ (fun _ s₁' h₁' => ?_) fun _ _ h' => h')
    refine wpAny_bind (wpAny_mono h₁' (fun _ s₂ h₂ => wpAny_bind (wpAny_mono h₂ (fun ok s₃ h₃ => ?_) fun _ _ h' => h')) fun _ _ h' => h')
    cases ok with
    | false => exact wpAny_pure ⟨rfl, h₃⟩
    | true =>
      exact wpAny_bind (wpAny_bind (wpAny_mono h₃ (fun x s₄ h₄ => wpAny_bind (wpAny_mono h₄ (fun _ s₅ h₅ => wpAny_pure (wpAny_pure ⟨rfl, h₅⟩)) fun _ _ h' => h')) fun _ _ h' => h'))
theorem block_E {elt iter : Expr} {x x₂ : Str} {px px₂ tp : Pos} {x1 : Nat} {ifs : List Expr} {scope : Scope} {cl : List (Str × Addr)} {pos : Pos} {s₂ : Shared} {it t : Addr} {vs : List Value} {news : List (Addr × Obj)} {J : Nat → List Value → Prop} {RR : Value → Addr → Result → Shared → Prop}
    (hh : A.handled = none) (hcell : ∀ y ∈ scope.names, y.2 ≠ .cell) (hkind : scope.kind = .function) (hx : scope.names.lookup x = some .local) (hx₂ : scope.names.lookup x₂ = some .local) (hxx : x ≠ x₂) (hsz : vs.length ≤ sizeLine)
    (he : IsEnum s₂.heap (it + 1) it 0 .none) (hit : IsTupIter s₂.heap it t 0) (hT : IsTup s₂.heap t vs.toArray) (hlt : ∀ p ∈ news, p.1 < it) (hLi : L < it) (hti : t < it) (htL : t ≠ L)
    (F : Fr h₀ L s₂.heap m) (N : News h₀ L s₂.heap news) (hlen : ∀ i ys, J i ys → ys.length ≤ i) (hJ : J 0 [])
    (step : ∀ i v tk₀ ys own C oC D m₂ h tk (E' : Value → Shared → Prop), vs[i]? = some v → J i ys → LCg.NsObj oC m₂ → m₂ x = some (.int (i : Int) tk₀) → m₂ x₂ = some v → Fr h₀ L h m → News h₀ L h ((C, oC) :: (D, LCg.lst ys) :: (news ++ own)) →
      wpAny (model prog w) A (forIn ifs true fun c r => if r = true then do let ok ← isTrue c (compEnvC scope cl C env) (eval c (compEnvC scope cl C env)); pure (ForInStep.yield ok) else pure (ForInStep.yield r)) (fun ok s₃ =>
        if ok = true then wpAny (model prog w) A (eval elt (compEnvC scope cl C env)) (fun y => EOut h₀ L m { s₂ with heap := h, toks := tk } ((C, oC) :: (D, LCg.lst ys) :: (news ++ own)) (J (i + 1) (ys ++ [y]))) E' s₃
        else EOut h₀ L m { s₂ with heap := h, toks := tk } ((C, oC) :: (D, LCg.lst ys) :: (news ++ own)) (J (i + 1) ys) s₃) E' { s₂ with heap := h, toks := tk })
    (hRR : ∀ D C h tk m' ys, Fr h₀ L h m → News h₀ L h ((D, LCg.lst ys) :: news) → LCg.Off1 D news → h.Ns C m' → h₀.get? C = none → C ≠ L → C ≠ D → (∀ p ∈ news, p.1 ≠ C) → J vs.length ys → RR (.ref D) C (.ok .next) { s₂ with heap := h, toks := tk }) :
    wpAny (model prog w) A (newList []) (fun acc s₃ => wpAny (model prog w) A (newFunctionEnv scope env.globals cl [] env.qual none .none (some env)) (fun cenv s₄ =>
      codeAny (model prog w) A (.compStart (.ListComp elt [⟨.Tuple [.Name x px, .Name x₂ px₂] x1 tp, iter, ifs, 0⟩] scope pos) 0 (.ref (it + 1)) acc { cenv with scope := relabel scope env }) (RR acc cenv.locals) s₄) E s₃) E s₂ := by
  have W := WalksT.enumerateD (draws_tup (prog := prog) (w := w) (A := A.in1) hh it t (Nat.ne_of_lt hti) vs.toArray) (it + 1) (Nat.succ_ne_self _) (fun hm => by
    rcases List.mem_cons.mp hm with e | hm
    · exact Nat.succ_ne_self _ e
    · exact Nat.ne_of_gt (Nat.lt_succ_of_lt hti) (List.mem_singleton.mp hm)) (by simp)
  refine wpAny_newObj_type (wpAny_newFunctionEnv hcell (by intro y hy; simp at hy) (fun h₁ ns₁ sb₁ => ?_) hkind)
  dsimp only at ns₁ sb₁ ⊢
  have hIs : it + 1 < s₂.heap.objs.size := Heap.lt_size he
  have hLs : L < s₂.heap.objs.size := F.ns.lt
  generalize hH : s₂.heap.push { cls := .type "list", dict := none, data := .seq ([] : List Value).toArray } = H at ns₁ sb₁ ⊢
  have hHs : H.objs.size = s₂.heap.objs.size + 1 := by rw [← hH, Heap.size_push]
  have up : ∀ b o, s₂.heap.get? b = some o → h₁.get? b = some o := fun b o e => by
    have hb := Heap.lt_size e
    exact sb₁.extBut b o (Nat.ne_of_lt (hHs ▸ Nat.lt_succ_of_lt hb)) (Heap.get?_push_of_some _ (hH ▸ Heap.get?_push_of_some _ e))
  have hacc : h₁.get? s₂.heap.objs.size = some (LCg.lst []) := sb₁.extBut _ _ (Nat.ne_of_lt (hHs ▸ Nat.lt_succ_self _)) (Heap.get?_push_of_some _ (hH ▸ Heap.get?_push_size _ rfl))
  generalize hD : s₂.heap.objs.size = D at *
  generalize hC : H.objs.size = C at *
  have hDC : D < C := hHs ▸ Nat.lt_succ_self _
  have nowhere : ∀ b, L < b → h₀.get? b = none := fun b hb => Heap.get?_none_of_le (Nat.le_trans F.above (Nat.le_of_lt hb))
  have hD₀ := nowhere D hLs
  have hC₀ := nowhere C (Nat.lt_trans hLs hDC)
  have nCD : C ≠ D := Nat.ne_of_gt hDC
  have nCL : C ≠ L := Nat.ne_of_gt (Nat.lt_trans hLs hDC)
  have nDL : D ≠ L := Nat.ne_of_gt hLs
  have nI : ∀ b ∈ [it + 1, it, t], b ≠ C ∧ b ≠ D := fun b hb => by
    simp only [List.mem_cons, List.not_mem_nil, or_false] at hb
    have : @LT.lt Nat _ b D := by
      rcases hb with rfl | rfl | rfl
      · exact hIs
      · exact Nat.lt_of_succ_lt hIs
      · exact Nat.lt_trans hti (Nat.lt_of_succ_lt hIs)
    exact ⟨Nat.ne_of_lt (Nat.lt_trans this hDC), Nat.ne_of_lt this⟩
  have hLf : L ∉ [it + 1, it, t] := by
    simp only [List.mem_cons, List.not_mem_nil, or_false, not_or]
    exact ⟨Nat.ne_of_lt (Nat.lt_succ_of_lt hLi), Nat.ne_of_lt hLi, Ne.symm htL⟩
  have hLw : L ∉ [it + 1, it] := fun h => hLf (W.sub _ h)
  have hwr : ∀ b ∈ [it + 1, it], h₀.get? b = none := fun b hb => by
    simp only [List.mem_cons, List.not_mem_nil, or_false] at hb
    rcases hb with rfl | rfl
    · exact nowhere _ (Nat.lt_succ_of_lt hLi)
    · exact nowhere _ hLi
  have offw : ∀ p ∈ news, p.1 ∉ [it + 1, it] := fun p hp hb => by
    have := hlt p hp
    simp only [List.mem_cons, List.not_mem_nil, or_false] at hb
    rcases hb with hb | hb
    · rw [hb] at this; exact absurd this (Nat.not_lt.mpr (Nat.le_succ _))
    · rw [hb] at this; exact absurd this (Nat.lt_irrefl _)
  have offD : ∀ p ∈ news, p.1 < D := fun p hp => Nat.lt_trans (hlt p hp) (Nat.lt_of_succ_lt hIs)
  have o1 : LCg.Off1 D news := LCg.Off3.one (I := C) (C := C) (LCg.Off3.of fun p hp => ⟨Nat.ne_of_lt (Nat.lt_trans (offD p hp) hDC), Nat.ne_of_lt (Nat.lt_trans (offD p hp) hDC), Nat.ne_of_lt (offD p hp)⟩)
  have N₁ : News h₀ L h₁ ((D, LCg.lst []) :: news) := fun p hp => by
    rcases List.mem_cons.mp hp with rfl | hp
    · exact ⟨hacc, nDL, hD₀⟩
    · exact ⟨up _ _ (N p hp).1, (N p hp).2⟩
  have st₁ : (∃ old, IsEnum h₁ (it + 1) it ((0 : Nat) : Int) old) ∧ (IsTupIter h₁ it t 0 ∧ IsTup h₁ t vs.toArray) := ⟨⟨_, up _ _ he⟩, tupIter_at hit (up _), tup_at hT (up _)⟩
  have loop : ∀ s₃ : Shared, s₃ = { s₂ with heap := h₁, toks := s₂.toks + ([] : List (Str × Value)).length } →
      codeAny (model prog w) A (.compLoop (.ListComp elt [⟨.Tuple [.Name x px, .Name x₂ px₂] x1 tp, iter, ifs, 0⟩] scope pos) 0 (.ref (it + 1)) (.ref D) (compEnvC scope cl C env)) (RR (.ref D) C) s₃ := by
    rintro s₃ rfl
    refine compLoop_gen (fun k s' => ∃ i : Nat, ∃ h tk ys m', s' = { s₂ with heap := h, toks := tk } ∧ i ≤ vs.length ∧ k = vs.length - i ∧ ((∃ old, IsEnum h (it + 1) it (i : Int) old) ∧ (IsTupIter h it t i ∧ IsTup h t vs.toArray)) ∧ Fr h₀ L h m ∧ h.Ns C m' ∧ News h₀ L h ((D, LCg.lst ys) :: news) ∧ J i ys) ?_ vs.length
      ⟨0, h₁, _, [], _, rfl, Nat.zero_le _, rfl, st₁, F.keeps up, ns₁, N₁, hJ⟩
    rintro k s' ⟨i, h, tk, ys, m', rfl, hi, rfl, st, F', C', N', J'⟩
    by_cases hlt' : i < vs.length
    · refine W.item i _ _ _ (by simpa using hlt') st fun T vals H₁ tk₁ hPt _ hTT hMid k₁ => ?_
      obtain ⟨tk₀, v, hv, rfl⟩ := hPt
      have hv' : vs[i]? = some v := by simpa using hv
      refine W.go _ x1 tp i T _ _ _ hMid fun H₂ st₂ k₂ => ?_
      obtain ⟨oT, eT, cT, nT, dT⟩ := hTT
      have hT₂ : IsTup H₂ T #[.int (i : Int) tk₀, v] := ⟨oT, k₂ T oT (W.apart i T H₁ hMid) eT, cT, nT, dT⟩
      refine assign_Tuple_tuple hh hT₂ rfl rfl fun H₃ he₃ => ?_
      have up₃ : ∀ b o, H₂.get? b = some o → H₃.get? b = some o := fun b o e => he₃ b o (Nat.ne_of_lt (Heap.lt_size e)) e
      have keep : ∀ b o, b ∉ [it + 1, it] → h.get? b = some o → H₃.get? b = some o := fun b o hb e => up₃ b o (k₂ b o hb (k₁ b o hb e))
      have hCw : C ∉ [it + 1, it] := fun hb => (nI C (W.sub _ hb)).1 rfl
      have hDw : D ∉ [it + 1, it] := fun hb => (nI D (W.sub _ hb)).2 rfl
      refine assignInOrder_cons (wpAny_assign_Name (wpAny_storeName_local (lookup_relabel_local hx) (C'.at' fun o e => keep _ o hCw e) (fun H₄ n₄ s₄ => ?_) (by simp [compEnvC, relabel, hkind])))
      refine assignInOrder_cons (wpAny_assign_Name (wpAny_storeName_local (lookup_relabel_local hx₂) n₄ (fun H₅ n₅ s₅ => ?_) (by simp [compEnvC, relabel, hkind])))
      refine assignInOrder_nil ?_
      have old5 : ∀ b o, b ≠ C → H₃.get? b = some o → H₅.get? b = some o := fun b o hb e => s₅.extBut b o hb (s₄.extBut b o hb e)
      have st₅ := W.frame (i + 1) H₂ H₅ st₂ fun b hb o e => old5 b o (nI b hb).1 (up₃ b o e)
      obtain ⟨oC, eC, dC⟩ := LCg.ns_obj n₅
      have F₃ : Fr h₀ L H₃ m := ⟨F'.ns.at' fun o e => keep _ o hLw e, fun b o e => keep b o (fun hb => by rw [hwr b hb] at e; cases e) (F'.keep b o e), F'.above⟩
      have F₅ := (F₃.change s₄ nCL hC₀).change s₅ nCL hC₀
      have N₅ : News h₀ L H₅ ((C, oC) :: (D, LCg.lst ys) :: (news ++ ownOf h₀ [it + 1, it, t] H₅)) := fun p hp => by
        rcases List.mem_cons.mp hp with rfl | hp
        · exact ⟨eC, nCL, hC₀⟩
        rcases List.mem_cons.mp hp with rfl | hp
        · exact ⟨old5 _ _ (Ne.symm nCD) (keep _ _ hDw (N' _ (.head _)).1), nDL, hD₀⟩
        rcases List.mem_append.mp hp with hp | hp
        · have z := N' _ (.tail _ hp)
          exact ⟨old5 _ _ (Nat.ne_of_lt (Nat.lt_trans (offD p hp) hDC)) (keep _ _ (offw p hp) z.1), z.2⟩
        · exact news_ownOf hLf p hp
      have again : ∀ {s₆ : Shared} {ys' : List Value} {tk₅ : Nat} {P : Prop}, EOut h₀ L m { s₂ with heap := H₅, toks := tk₅ } ((C, oC) :: (D, LCg.lst ys) :: (news ++ ownOf h₀ [it + 1, it, t] H₅)) P s₆ →
          ∃ H₆ tk₆, s₆ = { s₂ with heap := H₆, toks := tk₆ } ∧ P ∧ Fr h₀ L H₆ m ∧ ((∃ old, IsEnum H₆ (it + 1) it ((i + 1 : Nat) : Int) old) ∧ (IsTupIter H₆ it t (i + 1) ∧ IsTup H₆ t vs.toArray)) ∧ H₆.get? C = some oC ∧ News h₀ L H₆ ((D, LCg.lst ys) :: news) := by
        rintro s₆ ys' tk₅ P ⟨H₆, tk₆, rfl, F₆, N₆, hP⟩
        refine ⟨H₆, tk₆, rfl, hP, F₆, W.frame (i + 1) _ _ st₅ fun b hb o e => ?_, (N₆ _ (.head _)).1, fun p hp => ?_⟩
        · cases hn : h₀.get? b with
          | some o₀ =>
            have e₀ := F₅.keep b o₀ hn
            rw [e] at e₀
            rw [Option.some.inj e₀]
            exact F₆.keep b o₀ hn
          | none => exact (N₆ _ (.tail _ (.tail _ (List.mem_append_right _ (mem_ownOf hb hn e))))).1
        · rcases List.mem_cons.mp hp with rfl | hp
          · exact N₆ _ (.tail _ (.head _))
          · exact N₆ _ (.tail _ (.tail _ (List.mem_append_left _ hp)))
      refine wpAny_mono (step i v tk₀ ys (ownOf h₀ [it + 1, it, t] H₅) C oC D _ H₅ _ _ hv' J' dC (by simp [hxx]) (by simp) F₅ N₅) (fun ok s₆ z => ?_) fun _ _ e => e
      cases ok with
      | false =>
        obtain ⟨H₆, tk₆, rfl, hP, F₆, st₆, eC₆, N₆⟩ := again (ys' := ys) z
        exact ⟨vs.length - (i + 1), by omega, i + 1, H₆, tk₆, ys, _, rfl, hlt', rfl, st₆, F₆, dC.ns eC₆, N₆, hP⟩
      | true =>
        refine wpAny_mono z (fun y s₆ z => ?_) fun _ _ e => e
        obtain ⟨H₆, tk₆, rfl, hP, F₆, st₆, eC₆, N₆⟩ := again (ys' := ys) z
        refine append_at (hsz := by show ys.toArray.size ≤ sizeLine; rw [List.size_toArray]; exact Nat.le_trans (hlen _ _ J') (Nat.le_trans hi hsz)) (N₆ _ (.head _)).1 fun H₇ sb₇ e₇ => ?_
        refine ⟨vs.length - (i + 1), by omega, i + 1, H₇, tk₆, ys ++ [y], _, rfl, hlt', rfl, W.frame (i + 1) _ _ st₆ fun b hb o e => sb₇.extBut b o (nI b hb).2 e, F₆.change sb₇ nDL hD₀, (dC.ns eC₆).sameBut sb₇ nCD, fun p hp => ?_, hP⟩
        rcases List.mem_cons.mp hp with rfl | hp
        · exact ⟨e₇.trans (congrArg some (LCg.lst_snoc ys y)), nDL, hD₀⟩
        · have z := N₆ p (.tail _ hp)
          exact ⟨sb₇.extBut _ _ (Nat.ne_of_lt (offD p hp)) z.1, z.2⟩
    · obtain rfl : i = vs.length := Nat.le_antisymm hi (Nat.not_lt.mp hlt')
      refine W.done _ _ _ (by simpa using st) fun h₂ tk₂ k₂ => ?_
      have hCw : C ∉ [it + 1, it] := fun hb => (nI C (W.sub _ hb)).1 rfl
      have hDw : D ∉ [it + 1, it] := fun hb => (nI D (W.sub _ hb)).2 rfl
      refine hRR D C h₂ tk₂ _ ys ⟨F'.ns.at' fun o e => k₂ _ o hLw e, fun b o e => k₂ b o (fun hb => by rw [hwr b hb] at e; cases e) (F'.keep b o e), F'.above⟩ (fun p hp => ?_) o1 (C'.at' fun o e => k₂ _ o hCw e) hC₀ nCL nCD (fun p hp => Nat.ne_of_lt (Nat.lt_trans (offD p hp) hDC)) J'
      have z := N' p hp
      refine ⟨k₂ _ _ ?_ z.1, z.2⟩
      rcases List.mem_cons.mp hp with rfl | hp
      · exact hDw
      · exact offw p hp
  exact codeAny_compStart_list (loop _ rfl) (W.self 0 _ _ _ st₁ (loop _ rfl))
/-- a comprehension over enumerate of a tuple -/
noncomputable def EnumSrc (prog : Program) (w : World) (A : Around) (h₀ : Heap) (L : Addr) (m : Str → Option Value) (env : Env) (elt : Expr) (x x₂ : Str) (ifs : List Expr) (scope : Scope) (cl : List (Str × Addr)) (Q : Addr → List Value → List (Addr × Obj) → Shared → Prop) (xv : Value) (s₁ : Shared) : Prop :=
  ∃ (it t : Addr) (vs : List Value) (news : List (Addr × Obj)) (J : Nat → List Value → Prop),
    xv = .ref (it + 1) ∧ A.handled = none ∧ vs.length ≤ sizeLine ∧ IsEnum s₁.heap (it + 1) it 0 .none ∧ IsTupIter s₁.heap it t 0 ∧ IsTup s₁.heap t vs.toArray ∧ (∀ p ∈ news, p.1 < it) ∧ L < it ∧ t < it ∧ t ≠ L ∧
    Fr h₀ L s₁.heap m ∧ News h₀ L s₁.heap news ∧ (∀ i ys, J i ys → ys.length ≤ i) ∧ J 0 [] ∧
    (∀ i v tk₀ ys own C oC D m₂ h tk (E' : Value → Shared → Prop), vs[i]? = some v → J i ys → LCg.NsObj oC m₂ → m₂ x = some (.int (i : Int) tk₀) → m₂ x₂ = some v → Fr h₀ L h m → News h₀ L h ((C, oC) :: (D, LCg.lst ys) :: (news ++ own)) →
      wpAny (model prog w) A (forIn ifs true fun c r => if r = true then do let ok ← isTrue c (compEnvC scope cl C env) (eval c (compEnvC scope cl C env)); pure (ForInStep.yield ok) else pure (ForInStep.yield r)) (fun ok s₃ =>
        if ok = true then wpAny (model prog w) A (eval elt (compEnvC scope cl C env)) (fun y => EOut h₀ L m { s₁ with heap := h, toks := tk } ((C, oC) :: (D, LCg.lst ys) :: (news ++ own)) (J (i + 1) (ys ++ [y]))) E' s₃
        else EOut h₀ L m { s₁ with heap := h, toks := tk } ((C, oC) :: (D, LCg.lst ys) :: (news ++ own)) (J (i + 1) ys) s₃) E' { s₁ with heap := h, toks := tk }) ∧
    (∀ D ys h tk, J vs.length ys → Fr h₀ L h m → News h₀ L h ((D, LCg.lst ys) :: news) → LCg.Off1 D news → Q D ys news { s₁ with heap := h, toks := tk })
theorem ListComp_enum {elt iter : Expr} {x x₂ : Str} {px px₂ tp : Pos} {x1 : Nat} {ifs : List Expr} {scope : Scope} {cl : List (Str × Addr)} {pos : Pos} {Q : Value → Shared → Prop} (_F₀ : Fr h₀ L s.heap m)
    (hclos : closureFor scope env = pure cl) (hcell : ∀ y ∈ scope.names, y.2 ≠ .cell) (hkind : scope.kind = .function)
    (hnames : ∀ y ∈ scope.names, y.2 = .local → scope.names.lookup y.1 = some .local) (hx : scope.names.lookup x = some .local) (hx₂ : scope.names.lookup x₂ = some .local) (hxx : x ≠ x₂)
    (h : wpAny (model prog w) A (eval iter env) (EnumSrc prog w A h₀ L m env elt x x₂ ifs scope cl (fun D _ _ s' => Q (.ref D) s')) E s)
    (hs : ∀ x, foldedSetIterable iter env x = pure x := by intro _; rfl) :
    wpAny (model prog w) A (eval (.ListComp elt [⟨.Tuple [.Name x px, .Name x₂ px₂] x1 tp, iter, ifs, 0⟩] scope pos) env) Q E s := by
  rw [eval_ListComp]
  refine wpAny_comprehension_free (use := none) rfl hs hclos hkind hnames (wpAny_mono h (fun xv s₁ h₁ => ?_) fun _ _ e => e)
  obtain ⟨it, t, vs, news, J, rfl, hh, hsz, he, hit, hT, hlt, hLi, hti, htL, F, N, hlen, hJ0, step, fin⟩ := h₁
  refine wpAny_pyIter_enum he ?_
  refine block_E (J := J) hh hcell hkind hx hx₂ hxx hsz he hit hT hlt hLi hti htL F N hlen hJ0 step ?_
  intro D C h tk m' ys F' N' o1 hC hC₀ hCL hCD offC hJ
  refine ⟨m', hC, fun h'' sb => fin D ys h'' tk hJ (F'.change sb hCL hC₀) (fun p hp => ?_) o1⟩
  refine ⟨sb.extBut _ _ ?_ (N' p hp).1, (N' p hp).2⟩
  rcases List.mem_cons.mp hp with rfl | hp
  · exact Ne.symm hCD
  · exact offC p hp
end
end Mine
-- ML9
namespace Mine
open PySem PySem.W PyProof.Rows PySem.Spec PySem.Calls
section
variable {M : Model} {A : Around} {E : Value → Shared → Prop} {s : Shared}
theorem newEnv_cell {scope : Scope} {cl : List (Str × Addr)} {globals : Addr} {qual x : Str} {outer : Env} {Q : Env → Shared → Prop}
    (hcf : ∀ n : Nat, cellsFrom n scope.names cl = (x, n) :: cl) (hpc : ∀ h : Heap, pushCells h scope.names = h.push { cls := .type "cell", data := .cell none })
    (hQ : ∀ h', h'.Ns s.heap.objs.size (fun _ => none) → h'.IsCell (s.heap.objs.size + 1) none → (∀ b o, s.heap.get? b = some o → h'.get? b = some o) →
      Q { scope, locals := s.heap.objs.size, globals, cells := (x, s.heap.objs.size + 1) :: cl, qual, func := none, code := outer.code, frame := outer.frame, builtins := outer.builtins } { s with heap := h' }) :
    wpAny M A (newFunctionEnv scope globals cl [] qual none .none (some outer)) Q E s := by
  simp only [newFunctionEnv, Option.isSome_some, if_true]
  refine wpAny_bind (wpAny_alloc ?_)
  refine wpAny_bind (wpAny_layCells _ (fun name kind cells => by cases hkc : kind == NameKind.cell <;> simp [hkc]) _ _ _ _ ?_)
  rw [show ({ s with heap := s.heap.push { cls := .type "dict", data := .dict #[] } } : Shared).heap.objs.size = s.heap.objs.size + 1 from Heap.size_push .., hcf, hpc, List.forIn_nil]
  refine wpAny_bind (wpAny_pure (wpAny_pure ?_))
  refine hQ _ ((Heap.Ns.new s.heap (.type "dict")).keeps fun b o e => Heap.get?_push_of_some _ e) ?_ fun b o e => Heap.get?_push_of_some _ (Heap.get?_push_of_some _ e)
  refine ⟨{ cls := .type "cell", data := .cell none }, ?_, rfl⟩
  have h := Heap.get?_push_size (s.heap.push { cls := .type "dict", data := .dict #[] }) (o := { cls := .type "cell", data := .cell none }) rfl
  rw [Heap.size_push] at h
  exact h
end
section
variable {prog : Program} {w : World} {A : Around} {E : Value → Shared → Prop} {s : Shared} {h₀ : Heap} {L : Addr} {m : Str → Option Value} {env : Env}
theorem block_C {elt iter ct : Expr} {x : Str} {px : Pos} {scope : Scope} {cl : List (Str × Addr)} {pos : Pos} {s₂ : Shared} {I l : Addr} {vs : List Value} {news : List (Addr × Obj)} {J : Nat → List Value → Prop} {RR : Value → Addr → Result → Shared → Prop}
    (hh : A.handled = none) (hkind : scope.kind = .function) (hxk : (relabel scope env).names.lookup x = some .cell) (hcf : ∀ n : Nat, cellsFrom n scope.names cl = (x, n) :: cl) (hpc : ∀ h : Heap, pushCells h scope.names = h.push { cls := .type "cell", data := .cell none }) (hsz : vs.length ≤ sizeLine)
    (hit : s₂.heap.IsListIter I l 0) (hT : s₂.heap.IsList l vs.toArray) (hlt : ∀ p ∈ news, p.1 < I) (hLi : L < I) (hti : l < I) (htL : l ≠ L)
    (F : Fr h₀ L s₂.heap m) (N : News h₀ L s₂.heap news) (hlen : ∀ i ys, J i ys → ys.length ≤ i) (hJ : J 0 [])
    (step : ∀ i v ys own C oC K oK D h tk (E' : Value → Shared → Prop), vs[i]? = some v → J i ys → oK.data = .cell (some v) → Fr h₀ L h m → News h₀ L h ((C, oC) :: (K, oK) :: (D, LCg.lst ys) :: (news ++ own)) →
      wpAny (model prog w) A (isTrue ct (compEnvC scope ((x, K) :: cl) C env) (eval ct (compEnvC scope ((x, K) :: cl) C env))) (fun ok s₃ =>
        if ok = true then wpAny (model prog w) A (eval elt (compEnvC scope ((x, K) :: cl) C env)) (fun y => EOut h₀ L m { s₂ with heap := h, toks := tk } ((C, oC) :: (K, oK) :: (D, LCg.lst ys) :: (news ++ own)) (J (i + 1) (ys ++ [y]))) E' s₃
        else EOut h₀ L m { s₂ with heap := h, toks := tk } ((C, oC) :: (K, oK) :: (D, LCg.lst ys) :: (news ++ own)) (J (i + 1) ys) s₃) E' { s₂ with heap := h, toks := tk })
    (hRR : ∀ D C h tk m' ys, Fr h₀ L h m → News h₀ L h ((D, LCg.lst ys) :: news) → LCg.Off1 D news → h.Ns C m' → h₀.get? C = none → C ≠ L → C ≠ D → (∀ p ∈ news, p.1 ≠ C) → J vs.length ys → RR (.ref D) C (.ok .next) { s₂ with heap := h, toks := tk }) :
    wpAny (model prog w) A (newList []) (fun acc s₃ => wpAny (model prog w) A (newFunctionEnv scope env.globals cl [] env.qual none .none (some env)) (fun cenv s₄ =>
      codeAny (model prog w) A (.compStart (.ListComp elt [⟨.Name x px, iter, [ct], 0⟩] scope pos) 0 (.ref I) acc { cenv with scope := relabel scope env }) (RR acc cenv.locals) s₄) E s₃) E s₂ := by
  have W := Walks.list (prog := prog) (w := w) hh I l (Nat.ne_of_lt hti) vs.toArray
  refine wpAny_newObj_type (newEnv_cell hcf hpc (fun h₁ ns₁ cK₁ up₁ => ?_))
  dsimp only at ns₁ cK₁ up₁ ⊢
  have hIs : I < s₂.heap.objs.size := by obtain ⟨o, e, _⟩ := hit; exact Heap.lt_size e
  have hLs : L < s₂.heap.objs.size := F.ns.lt
  generalize hH : s₂.heap.push { cls := .type "list", dict := none, data := .seq ([] : List Value).toArray } = H at ns₁ cK₁ up₁ ⊢
  have hHs : H.objs.size = s₂.heap.objs.size + 1 := by rw [← hH, Heap.size_push]
  have up : ∀ b o, s₂.heap.get? b = some o → h₁.get? b = some o := fun b o e => up₁ b o (hH ▸ Heap.get?_push_of_some _ e)
  have hacc : h₁.get? s₂.heap.objs.size = some (LCg.lst []) := up₁ _ _ (hH ▸ Heap.get?_push_size _ rfl)
  generalize hD : s₂.heap.objs.size = D at *
  generalize hC : H.objs.size = C at *
  have hDC : D < C := hHs ▸ Nat.lt_succ_self _
  have nowhere : ∀ b, L < b → h₀.get? b = none := fun b hb => Heap.get?_none_of_le (Nat.le_trans F.above (Nat.le_of_lt hb))
  have hLC : L < C := Nat.lt_trans hLs hDC
  have hD₀ := nowhere D hLs
  have hC₀ := nowhere C hLC
  have hK₀ := nowhere (C + 1) (Nat.lt_succ_of_lt hLC)
  have nCD : C ≠ D := Nat.ne_of_gt hDC
  have nKD : C + 1 ≠ D := Nat.ne_of_gt (Nat.lt_succ_of_lt hDC)
  have nKC : C + 1 ≠ C := Nat.succ_ne_self _
  have nCL : C ≠ L := Nat.ne_of_gt hLC
  have nKL : C + 1 ≠ L := Nat.ne_of_gt (Nat.lt_succ_of_lt hLC)
  have nDL : D ≠ L := Nat.ne_of_gt hLs
  have nI : ∀ b ∈ [I, l], b < D := fun b hb => by
    simp only [List.mem_cons, List.not_mem_nil, or_false] at hb
    rcases hb with rfl | rfl
    · exact hIs
    · exact Nat.lt_trans hti hIs
  have nIC : ∀ b ∈ [I, l], b ≠ C := fun b hb => Nat.ne_of_lt (Nat.lt_trans (nI b hb) hDC)
  have nIK : ∀ b ∈ [I, l], b ≠ C + 1 := fun b hb => Nat.ne_of_lt (Nat.lt_succ_of_lt (Nat.lt_trans (nI b hb) hDC))
  have nID : ∀ b ∈ [I, l], b ≠ D := fun b hb => Nat.ne_of_lt (nI b hb)
  have hLf : L ∉ [I, l] := by
    simp only [List.mem_cons, List.not_mem_nil, or_false, not_or]
    exact ⟨Nat.ne_of_lt hLi, Ne.symm htL⟩
  have hLw : L ∉ [I] := fun h => hLf (W.sub _ h)
  have hwr : ∀ b ∈ [I], h₀.get? b = none := fun b hb => by rw [List.mem_singleton.mp hb]; exact nowhere _ hLi
  have offw : ∀ p ∈ news, p.1 ∉ [I] := fun p hp hb => by
    have := hlt p hp
    rw [List.mem_singleton.mp hb] at this; exact absurd this (Nat.lt_irrefl _)
  have offD : ∀ p ∈ news, p.1 < D := fun p hp => Nat.lt_trans (hlt p hp) hIs
  have o1 : LCg.Off1 D news := LCg.Off3.one (I := C) (C := C) (LCg.Off3.of fun p hp => ⟨Nat.ne_of_lt (Nat.lt_trans (offD p hp) hDC), Nat.ne_of_lt (Nat.lt_trans (offD p hp) hDC), Nat.ne_of_lt (offD p hp)⟩)
  have N₁ : News h₀ L h₁ ((D, LCg.lst []) :: news) := fun p hp => by
    rcases List.mem_cons.mp hp with rfl | hp
    · exact ⟨hacc, nDL, hD₀⟩
    · exact ⟨up _ _ (N p hp).1, (N p hp).2⟩
  have st₁ : h₁.IsListIter I l ((0 : Nat)) ∧ h₁.IsList l vs.toArray := ⟨hit.at (up _), hT.at (up _)⟩
  have hCw : C ∉ [I] := fun hb => nIC C (W.sub _ hb) rfl
  have hKw : C + 1 ∉ [I] := fun hb => nIK _ (W.sub _ hb) rfl
  have hDw : D ∉ [I] := fun hb => nID D (W.sub _ hb) rfl
  have loop : ∀ s₃ : Shared, s₃ = { s₂ with heap := h₁ } →
      codeAny (model prog w) A (.compLoop (.ListComp elt [⟨.Name x px, iter, [ct], 0⟩] scope pos) 0 (.ref I) (.ref D) (compEnvC scope ((x, C + 1) :: cl) C env)) (RR (.ref D) C) s₃ := by
    rintro s₃ rfl
    refine codeAny_compLoop_tests (fun k s' => ∃ i : Nat, ∃ h tk ys m' vK, s' = { s₂ with heap := h, toks := tk } ∧ i ≤ vs.length ∧ k = vs.length - i ∧ (h.IsListIter I l i ∧ h.IsList l vs.toArray) ∧ Fr h₀ L h m ∧ h.Ns C m' ∧ h.IsCell (C + 1) vK ∧ News h₀ L h ((D, LCg.lst ys) :: news) ∧ J i ys) ?_ vs.length
      ⟨0, h₁, _, [], _, _, rfl, Nat.zero_le _, rfl, st₁, F.keeps up, ns₁, cK₁, N₁, hJ⟩
    rintro k s' ⟨i, h, tk, ys, m', vK, rfl, hi, rfl, st, F', C', K', N', J'⟩
    by_cases hlt' : i < vs.length
    · refine W.item i _ _ _ (by simpa using hlt') st fun v H₁ tk₁ hv st₂ k₁ => ?_
      have hv' : vs[i]? = some v := by simpa using hv
      obtain ⟨oK₀, eK₀, dK₀⟩ := K'
      refine wpAny_assign_Name (wpAny_storeName_cell hkind hxk (by simp [compEnvC]) ⟨oK₀, k₁ _ _ hKw eK₀, dK₀⟩ fun H₅ cK₅ s₅ => ?_)
      refine wpAny_tests_one ?_
      obtain ⟨oK, eK, dK⟩ := cK₅
      have old5 : ∀ b o, b ≠ C + 1 → b ∉ [I] → h.get? b = some o → H₅.get? b = some o := fun b o hb hw e => s₅.extBut b o hb (k₁ b o hw e)
      have st₅ := W.frame (i + 1) H₁ H₅ st₂ fun b hb o e => s₅.extBut b o (nIK b hb) e
      have C₅ : H₅.Ns C m' := C'.at' fun o e => old5 _ o (Ne.symm nKC) hCw e
      obtain ⟨oC, eC, dC⟩ := LCg.ns_obj C₅
      have F₃ : Fr h₀ L H₁ m := ⟨F'.ns.at' fun o e => k₁ _ o hLw e, fun b o e => k₁ b o (fun hb => by rw [hwr b hb] at e; cases e) (F'.keep b o e), F'.above⟩
      have F₅ := F₃.change s₅ nKL hK₀
      have N₅ : News h₀ L H₅ ((C, oC) :: (C + 1, oK) :: (D, LCg.lst ys) :: (news ++ ownOf h₀ [I, l] H₅)) := fun p hp => by
        rcases List.mem_cons.mp hp with rfl | hp
        · exact ⟨eC, nCL, hC₀⟩
        rcases List.mem_cons.mp hp with rfl | hp
        · exact ⟨eK, nKL, hK₀⟩
        rcases List.mem_cons.mp hp with rfl | hp
        · exact ⟨old5 _ _ (Ne.symm nKD) hDw (N' _ (.head _)).1, nDL, hD₀⟩
        rcases List.mem_append.mp hp with hp | hp
        · have z := N' _ (.tail _ hp)
          exact ⟨old5 _ _ (Nat.ne_of_lt (Nat.lt_succ_of_lt (Nat.lt_trans (offD p hp) hDC))) (offw p hp) z.1, z.2⟩
        · exact news_ownOf hLf p hp
      have again : ∀ {s₆ : Shared} {tk₅ : Nat} {P : Prop}, EOut h₀ L m { s₂ with heap := H₅, toks := tk₅ } ((C, oC) :: (C + 1, oK) :: (D, LCg.lst ys) :: (news ++ ownOf h₀ [I, l] H₅)) P s₆ →
          ∃ H₆ tk₆, s₆ = { s₂ with heap := H₆, toks := tk₆ } ∧ P ∧ Fr h₀ L H₆ m ∧ (H₆.IsListIter I l (i + 1) ∧ H₆.IsList l vs.toArray) ∧ H₆.get? C = some oC ∧ H₆.get? (C + 1) = some oK ∧ News h₀ L H₆ ((D, LCg.lst ys) :: news) := by
        rintro s₆ tk₅ P ⟨H₆, tk₆, rfl, F₆, N₆, hP⟩
        refine ⟨H₆, tk₆, rfl, hP, F₆, W.frame (i + 1) _ _ st₅ fun b hb o e => ?_, (N₆ _ (.head _)).1, (N₆ _ (.tail _ (.head _))).1, fun p hp => ?_⟩
        · cases hn : h₀.get? b with
          | some o₀ =>
            have e₀ := F₅.keep b o₀ hn
            rw [e] at e₀
            rw [Option.some.inj e₀]
            exact F₆.keep b o₀ hn
          | none => exact (N₆ _ (.tail _ (.tail _ (.tail _ (List.mem_append_right _ (mem_ownOf hb hn e)))))).1
        · rcases List.mem_cons.mp hp with rfl | hp
          · exact N₆ _ (.tail _ (.tail _ (.head _)))
          · exact N₆ _ (.tail _ (.tail _ (.tail _ (List.mem_append_left _ hp))))
      refine wpAny_mono (step i v ys (ownOf h₀ [I, l] H₅) C oC (C + 1) oK D H₅ _ _ hv' J' dK F₅ N₅) (fun ok s₆ z => ?_) fun _ _ e => e
      cases ok with
      | false =>
        obtain ⟨H₆, tk₆, rfl, hP, F₆, st₆, eC₆, eK₆, N₆⟩ := again z
        exact ⟨vs.length - (i + 1), by omega, i + 1, H₆, tk₆, ys, _, _, rfl, hlt', rfl, st₆, F₆, dC.ns eC₆, ⟨oK, eK₆, dK⟩, N₆, hP⟩
      | true =>
        refine wpAny_mono z (fun y s₆ z => ?_) fun _ _ e => e
        obtain ⟨H₆, tk₆, rfl, hP, F₆, st₆, eC₆, eK₆, N₆⟩ := again z
        refine append_at (hsz := by show ys.toArray.size ≤ sizeLine; rw [List.size_toArray]; exact Nat.le_trans (hlen _ _ J') (Nat.le_trans hi hsz)) (N₆ _ (.head _)).1 fun H₇ sb₇ e₇ => ?_
        refine ⟨vs.length - (i + 1), by omega, i + 1, H₇, tk₆, ys ++ [y], _, _, rfl, hlt', rfl, W.frame (i + 1) _ _ st₆ fun b hb o e => sb₇.extBut b o (nID b hb) e, F₆.change sb₇ nDL hD₀, (dC.ns eC₆).sameBut sb₇ nCD, ⟨oK, sb₇.extBut _ _ nKD eK₆, dK⟩, fun p hp => ?_, hP⟩
        rcases List.mem_cons.mp hp with rfl | hp
        · exact ⟨e₇.trans (congrArg some (LCg.lst_snoc ys y)), nDL, hD₀⟩
        · have z := N₆ p (.tail _ hp)
          exact ⟨sb₇.extBut _ _ (Nat.ne_of_lt (offD p hp)) z.1, z.2⟩
    · obtain rfl : i = vs.length := Nat.le_antisymm hi (Nat.not_lt.mp hlt')
      refine W.done _ _ _ (by simpa using st) fun h₂ tk₂ k₂ => ?_
      refine hRR D C h₂ tk₂ _ ys ⟨F'.ns.at' fun o e => k₂ _ o hLw e, fun b o e => k₂ b o (fun hb => by rw [hwr b hb] at e; cases e) (F'.keep b o e), F'.above⟩ (fun p hp => ?_) o1 (C'.at' fun o e => k₂ _ o hCw e) hC₀ nCL nCD (fun p hp => Nat.ne_of_lt (Nat.lt_trans (offD p hp) hDC)) J'
      have z := N' p hp
      refine ⟨k₂ _ _ ?_ z.1, z.2⟩
      rcases List.mem_cons.mp hp with rfl | hp
      · exact hDw
      · exact offw p hp
  exact codeAny_compStart_list (loop _ rfl) (W.self 0 _ _ _ st₁ (loop _ rfl))
/-- y = a comprehension over a list with a test, whose own name is a cell -/
noncomputable def CellSrc (prog : Program) (w : World) (A : Around) (h₀ : Heap) (L : Addr) (m : Str → Option Value) (env : Env) (ct elt : Expr) (x : Str) (scope : Scope) (cl : List (Str × Addr)) (y : Str) (Q : Flow → Shared → Prop) (xv : Value) (s₁ : Shared) : Prop :=
  ∃ (l : Addr) (vs : List Value) (news : List (Addr × Obj)) (J : Nat → List Value → Prop),
    xv = .ref l ∧ A.handled = none ∧ vs.length ≤ sizeLine ∧ s₁.heap.IsList l vs.toArray ∧ l ≠ L ∧ Fr h₀ L s₁.heap m ∧ News h₀ L s₁.heap news ∧ (∀ i ys, J i ys → ys.length ≤ i) ∧ J 0 [] ∧
    (∀ i v ys own C oC K oK D h tk (E' : Value → Shared → Prop), vs[i]? = some v → J i ys → oK.data = .cell (some v) → Fr h₀ L h m → News h₀ L h ((C, oC) :: (K, oK) :: (D, LCg.lst ys) :: (news ++ own)) →
      wpAny (model prog w) A (isTrue ct (compEnvC scope ((x, K) :: cl) C env) (eval ct (compEnvC scope ((x, K) :: cl) C env))) (fun ok s₃ =>
        if ok = true then wpAny (model prog w) A (eval elt (compEnvC scope ((x, K) :: cl) C env)) (fun y => EOut h₀ L m { s₁ with heap := h, toks := tk } ((C, oC) :: (K, oK) :: (D, LCg.lst ys) :: (news ++ own)) (J (i + 1) (ys ++ [y]))) E' s₃
        else EOut h₀ L m { s₁ with heap := h, toks := tk } ((C, oC) :: (K, oK) :: (D, LCg.lst ys) :: (news ++ own)) (J (i + 1) ys) s₃) E' { s₁ with heap := h, toks := tk }) ∧
    (∀ D ys h tk, J vs.length ys → Fr h₀ L h (fun z => if z = y then some (.ref D) else m z) → News h₀ L h ((D, LCg.lst ys) :: news) → LCg.Off1 D news → Q .next { s₁ with heap := h, toks := tk })
theorem Assign_ListComp_cell {elt iter ct : Expr} {x y : Str} {px py : Pos} {scope : Scope} {cl : List (Str × Addr)} {pos spos : Pos} {Q : Flow → Shared → Prop} (_F₀ : Fr h₀ L s.heap m) (hLe : env.locals = L)
    (hsw : swapsWith (.ListComp elt [⟨.Name x px, iter, [ct], 0⟩] scope pos) (some (.Name y py)) spos.line env = pure true)
    (hclos : closureFor scope env = pure cl) (hkind : scope.kind = .function) (hxk : (relabel scope env).names.lookup x = some .cell) (hcf : ∀ n : Nat, cellsFrom n scope.names cl = (x, n) :: cl) (hpc : ∀ h : Heap, pushCells h scope.names = h.push { cls := .type "cell", data := .cell none })
    (hnames : ∀ z ∈ scope.names, z.2 = .local → scope.names.lookup z.1 = some .local)
    (hy : env.kindOf y = some .local) (hp : (env.scope.kind == .class || (env.scope.kind == .module && env.locals != env.globals)) = false)
    (h : wpAny (model prog w) A (eval iter env) (fun xv s₁ => Stop (CellSrc prog w A h₀ L m env ct elt x scope cl y Q xv s₁)) E s)
    (hs : ∀ x, foldedSetIterable iter env x = pure x := by intro _; rfl) :
    wpAny (model prog w) A (exec (.Assign [.Name y py] (.ListComp elt [⟨.Name x px, iter, [ct], 0⟩] scope pos) spos) env) Q E s := by
  subst hLe
  rw [exec_Assign_Name_used _ _ _ _ hsw]
  refine wpAny_bind (wpAny_standAt (wpAny_bind ?_))
  show wpAny _ A (do let _ ← comprehension (.ListComp elt [⟨.Name x px, iter, [ct], 0⟩] scope pos) scope env _ (newList []) false (eval iter env) (some (assign (.Name y py) env))) _ _ s
  refine wpAny_bind (wpAny_mono (wpAny_comprehension_free (use := some (assign (.Name y py) env)) (Q := fun _ s' => Q .next s') rfl hs hclos hkind hnames
    (wpAny_mono h (fun xv s₁ h₁ => ?_) fun _ _ e => e)) (fun _ s' hq => wpAny_pure (wpAny_pure hq)) fun _ _ e => e)
  obtain ⟨l, vs, news, J, rfl, hh, hsz, hL, hlL, F, N, hlen, hJ0, step, fin⟩ := h₁.out
  have hll : l < s₁.heap.objs.size := by obtain ⟨o, ho, _⟩ := hL; exact Heap.lt_size ho
  refine wpAny_pyIter_list hL ?_
  have up : ∀ (q : Addr) (o : Obj), s₁.heap.get? q = some o → (s₁.heap.push { cls := .type "list_iterator", data := .fields #[.ref l, .int 0 0] }).get? q = some o := fun _ o e => Heap.get?_push_of_some _ e
  refine block_C (J := J) hh hkind hxk hcf hpc hsz ⟨_, Heap.get?_push_size _ rfl, rfl, rfl⟩ (hL.at (up _)) (fun p hp => Heap.lt_size (N p hp).1) F.ns.lt hll hlL (F.keeps up) (N.grown up) hlen hJ0 step ?_
  intro D C h' tk m' ys F' N' o1 hC hC₀ hCL hCD offC hJ
  show wpAny _ A (assign (.Name y py) env (.ref D)) _ _ _
  refine wpAny_assign_Name (wpAny_storeName_local hy F'.ns (fun h₂ hn₂ hs₂ => ?_) hp)
  have F₂ := F'.set hn₂ hs₂
  have N₂ := N'.set hs₂
  refine ⟨m', hC.sameBut hs₂ hCL, fun h'' sb => fin D ys h'' _ hJ (F₂.change sb hCL hC₀) (fun p hp => ?_) o1⟩
  refine ⟨sb.extBut _ _ ?_ (N₂ p hp).1, (N₂ p hp).2⟩
  rcases List.mem_cons.mp hp with rfl | hp
  · exact Ne.symm hCD
  · exact offC p hp
end
end Mine
-- MP
set_option maxHeartbeats 0
namespace Mine
open PySem PySem.W PyProof.Rows
noncomputable def stAt (i : Nat) : Stmt := (Challenge.pw_tl0059_01.main.body.drop i).headD (.Pass default)
end Mine
-- HD
namespace Mine
open PySem PySem.W PyProof.Rows

noncomputable abbrev PW : Program := Challenge.pw_tl0059_01
noncomputable abbrev TR (w : World) := topRun treeTable PW w 11 (some (.ref 6))

/-- a piece of the model's code goes, in n steps at most, from one state to another and gives a -/
noncomputable def Goes (w : World) {α : Type} (n : Nat) (x : Sem α) (s : Shared) (q : Pos) (a : α) (s' : Shared) (q' : Pos) : Prop :=
  ∀ (K : α → Sem Fin) (H : Value → Sem Fin) (gd : Bool → Bool) (lv : List Value → List Value) (c : Code) (f : Frame) (r : Shared) (N : Nat),
    TR w N s' ⟨K a, c, q', [f]⟩ = some r → TR w (n + N) s ⟨x.wrap K H gd lv, c, q, [f]⟩ = some r

section
variable {w : World} {α β : Type} {s s' s₂ : Shared} {q q' q₂ : Pos} {a : α} {b : β} {n m : Nat}

theorem Goes.pure (a : α) : Goes w 0 (Sem.pure a) s q a s q := fun K H gd lv c f r N h => by rw [Nat.zero_add]; exact h
theorem Goes.mono {x : Sem α} (h : Goes w n x s q a s' q') (le : n ≤ m) : Goes w m x s q a s' q' := fun K H gd lv c f r N k => by
  have := topRun_mono (m - n) _ _ _ _ (h K H gd lv c f r N k)
  rwa [show n + N + (m - n) = m + N by omega] at this
theorem Goes.bind {x : Sem α} {g : α → Sem β} (h : Goes w n x s q a s' q') (k : Goes w m (g a) s' q' b s₂ q₂) : Goes w (n + m) (x.bind g) s q b s₂ q₂ := fun K H gd lv c f r N e => by
  rw [Sem.bind_eq_wrap, Sem.wrap_wrap, Nat.add_assoc]
  exact h _ _ _ _ c f r _ (k K H gd lv c f r N e)
theorem Goes.keep {x : Sem α} (h : Goes w n x s q a s' q') (vs : List Value) : Goes w n (x.keep vs) s q a s' q' := fun K H gd lv c f r N e => by
  rw [Sem.keep_eq_wrap, Sem.wrap_wrap]
  exact h _ _ _ _ c f r _ e
theorem Goes.holding {x : Sem α} (h : Goes w n x s q a s' q') (vs : List Value) : Goes w n (holding vs x) s q a s' q' := by
  unfold PySem.holding
  split
  · exact h
  · exact h.keep _
theorem Goes.onRaise {x : Sem α} (h : Goes w n x s q a s' q') (k : Value → Sem Unit) : Goes w n (x.onRaise k) s q a s' q' := fun K H gd lv c f r N e => by
  rw [Sem.onRaise_eq_wrap, Sem.wrap_wrap]
  exact h _ _ _ _ c f r _ e
theorem Goes.tryCatch {x : Sem α} (h : Goes w n x s q a s' q') (k : Value → Sem α) : Goes w n (x.tryCatch k) s q a s' q' := fun K H gd lv c f r N e => by
  rw [Sem.tryCatch_eq_wrap, Sem.wrap_wrap]
  exact h _ _ _ _ c f r _ e

theorem go1 {w : World} {s s' : Shared} {t t' : Thread} {N : Nat} {r : Shared} (hk : stepOk 11 (some (.ref 6)) t = true) (ht : through t = false) (hs : step (denote treeTable) PW w s t = .go s' t')
    (h : TR w N s' t' = some r) : TR w (1 + N) s t = some r := by
  rw [Nat.add_comm]
  unfold TR topRun
  rw [ht, hk, hs]
  exact h

theorem Goes.at' (p : Pos) : Goes w 1 (standAt p) s q () s p := fun K H gd lv c f r N h => go1 rfl rfl rfl h
theorem Goes.rule (t : String) : Goes w 1 (rule t) s q () s q := fun K H gd lv c f r N h => go1 rfl rfl rfl h
theorem Goes.ask : Goes w 1 ask s q ⟨PW, w.params⟩ s q := fun K H gd lv c f r N h => go1 rfl rfl rfl h
theorem Goes.fresh : Goes w 1 fresh s q s.toks { s with toks := s.toks + 1 } q := fun K H gd lv c f r N h => go1 rfl rfl rfl h
theorem Goes.alloc (o : Obj) : Goes w 1 (alloc o) s q s.heap.objs.size { s with heap := s.heap.push o } q := fun K H gd lv c f r N h => go1 rfl rfl rfl h
theorem Goes.loadPart {l : Addr} {o : Obj} (part : Option Value) (e : s.heap.get? l = some o) : Goes w 1 (loadPart l part) s q o s q := fun K H gd lv c f r N h => by
  refine go1 rfl rfl ?_ h
  show (match s.heap.get? l with | some o => _ | none => _) = _
  rw [e]
  rfl
theorem Goes.load {l : Addr} {o : Obj} (e : s.heap.get? l = some o) : Goes w 1 (load l) s q o s q := Goes.loadPart none e
theorem Goes.updatePart {l : Addr} {o : Obj} (part : Option Value) (g : Obj → Obj) (e : s.heap.get? l = some o) (hl : Nat.ble 11 l = true) : Goes w 1 (updatePart l part g) s q () { s with heap := s.heap.update l g } q := fun K H gd lv c f r N h => by
  refine go1 (t' := ⟨K (), c, q, [f]⟩) (s' := { s with heap := s.heap.update l g }) ?_ rfl ?_ h
  · show (_ && (Nat.ble 11 l || _ || _ || _)) = true
    rw [hl]
    rfl
  · show (if (s.heap.get? l).isSome then _ else _) = _
    rw [e]
    rfl
end

noncomputable def HashEq (w : World) : Prop := ∀ (s : Shared) (q : Pos) (k : Int) (t : Tok) (K : Int → Sem Fin) (H : Value → Sem Fin) (gd : Bool → Bool) (lv : List Value → List Value) (c : Code) (f : Frame) (N : Nat),
    TR w (N + 5) s ⟨(pyHash (.int k t)).wrap K H gd lv, c, q, [f]⟩ = TR w N ⟨s.heap, s.gens, s.drawn, s.toks + 1, s.os⟩ ⟨(pyHashByItsType.reduced (rawHash k)).wrap K H gd lv, c, q, [f]⟩
theorem hash_eq : ∀ w : World, HashEq w := fun w => by
  refine byRow2 "special-get-raises" (P := HashEq) (fun w => ?_) (fun w => ?_) w
  · unfold HashEq
    rintro ⟨heap, gens, drawn, toks, os⟩ q k t K H gd lv c f N
    kernel_rfl
  · unfold HashEq
    rintro ⟨heap, gens, drawn, toks, os⟩ q k t K H gd lv c f N
    kernel_rfl
theorem reduced_eq (k : Int) : pyHashByItsType.reduced (rawHash k) = Sem.pure (hashInt k) := by
  have hr := rawHash_range k
  show (if (decide (-(2 : Int) ^ 63 ≤ rawHash k) && decide (rawHash k < 2 ^ 63)) = true then _ else _) = _
  rw [if_pos (by rw [decide_eq_true hr.1, decide_eq_true hr.2]; rfl)]
  rfl
section
variable {w : World} {s : Shared} {q : Pos}
theorem goes_hash (k : Int) (t : Tok) : Goes w 5 (pyHash (.int k t)) s q (hashInt k) { s with toks := s.toks + 1 } q := fun K H gd lv c f r N h => by
  rw [Nat.add_comm, hash_eq w, reduced_eq]
  exact h

theorem goes_dictEntries {d : Addr} {c : Value} {dd : Option Addr} {es : Array DictEntry} {n : Nat} {sl : Array (Option Value)} (part : Option Value) (e : s.heap.get? d = some ⟨c, dd, .dict es n, sl⟩) : Goes w 1 (dictEntries d part) s q es s q := by
  unfold dictEntries
  exact (Goes.loadPart part e).bind (m := 0) (Goes.pure es)

theorem places_nil {es : Array DictEntry} {h : Int} (hn : ∀ e ∈ es, e.hash ≠ h) : placesWithHash es.size (fun i => es[i]?.map (·.hash)) h = [] := by
  unfold placesWithHash
  rw [List.filter_eq_nil_iff]
  intro i hi
  have hi := List.mem_range.mp hi
  dsimp only
  rw [Array.getElem?_eq_getElem hi]
  intro e
  exact hn _ (Array.getElem_mem hi) (by simpa using e)

theorem goes_dictFind {d : Addr} {c : Value} {dd : Option Addr} {es : Array DictEntry} {n : Nat} {sl : Array (Option Value)} {k : Int} {t : Tok} (e : s.heap.get? d = some ⟨c, dd, .dict es n, sl⟩) (hn : ∀ e ∈ es, e.hash ≠ hashInt k) :
    Goes w 1 (dictFind d (.int k t) (hashInt k)) s q none s q := by
  unfold dictFind
  refine Goes.holding ?_ _
  refine (goes_dictEntries _ e).bind (m := 0) ?_
  dsimp only
  rw [places_nil hn]
  exact Goes.pure none

theorem goes_keys {d : Addr} {c : Value} {dd : Option Addr} {es : Array DictEntry} {n : Nat} {sl : Array (Option Value)} (part : Option Value) (g : Array DictEntry → Array DictEntry) (e : s.heap.get? d = some ⟨c, dd, .dict es n, sl⟩) (hl : Nat.ble 11 d = true)
    (e' : (s.heap.update d (Obj.mapDictKeys g)).get? d = some ⟨c, dd, .dict (g es) (n + 1), sl⟩) (hs : (g es).size ≤ 100000) :
    Goes w 3 (updateDictKeys d g part) s q () { s with heap := s.heap.update d (Obj.mapDictKeys g) } q := by
  unfold updateDictKeys
  refine (Goes.loadPart part e).bind (m := 2) ?_
  refine (Goes.updatePart part (Obj.mapDictKeys g) e hl).bind (m := 1) ?_
  unfold lookBehind
  refine (Goes.loadPart (s := { s with heap := s.heap.update d (Obj.mapDictKeys g) }) part e').bind (m := 0) ?_
  have hp : (Data.dict (g es) (n + 1)).pastItsLine = none := if_neg (by unfold sizeLine; omega)
  dsimp only
  rw [hp]
  exact Goes.pure ()

theorem goes_dictSet {d : Addr} {c : Value} {dd : Option Addr} {es : Array DictEntry} {n : Nat} {sl : Array (Option Value)} {k : Int} {t : Tok} {v : Value} (e : s.heap.get? d = some ⟨c, dd, .dict es n, sl⟩) (hn : ∀ e ∈ es, e.hash ≠ hashInt k) (hl : Nat.ble 11 d = true)
    (e' : (s.heap.update d (Obj.mapDictKeys (·.push ⟨hashInt k, .int k t, v⟩))).get? d = some ⟨c, dd, .dict (es.push ⟨hashInt k, .int k t, v⟩) (n + 1), sl⟩) (hs : es.size < 100000) :
    Goes w 10 (dictSet d (.int k t) v) s q () { s with heap := s.heap.update d (Obj.mapDictKeys (·.push ⟨hashInt k, .int k t, v⟩)), toks := s.toks + 1 } q := by
  unfold dictSet
  refine Goes.holding ?_ _
  refine (goes_hash k t).bind (m := 5) ?_
  unfold dictSetHashed
  refine Goes.holding ?_ _
  refine (goes_dictFind (s := { s with toks := s.toks + 1 }) e hn).bind (m := 4) ?_
  refine (Goes.rule _).bind (m := 3) ?_
  exact goes_keys (s := { s with toks := s.toks + 1 }) _ _ e hl e' (by rw [Array.size_push]; omega)

theorem goes_dictPut {d : Addr} {c : Value} {dd : Option Addr} {es : Array DictEntry} {n : Nat} {sl : Array (Option Value)} {k : Int} {t : Tok} {v : Value} (e : s.heap.get? d = some ⟨c, dd, .dict es n, sl⟩) (hn : ∀ e ∈ es, e.hash ≠ hashInt k) (hl : Nat.ble 11 d = true)
    (e' : (s.heap.update d (Obj.mapDictKeys (·.push ⟨hashInt k, .int k t, v⟩))).get? d = some ⟨c, dd, .dict (es.push ⟨hashInt k, .int k t, v⟩) (n + 1), sl⟩) (hs : es.size < 100000) :
    Goes w 4 (dictPut d (hashInt k) (.int k t) v) s q () { s with heap := s.heap.update d (Obj.mapDictKeys (·.push ⟨hashInt k, .int k t, v⟩)) } q := by
  unfold dictPut
  refine (goes_dictFind e hn).bind (m := 3) ?_
  exact goes_keys _ _ e hl e' (by rw [Array.size_push]; omega)
end
end Mine
-- HD2
namespace Mine
open PySem PySem.W PyProof.Rows

noncomputable abbrev dobj (es : Array DictEntry) (n : Nat) : Obj := ⟨.type "dict", none, .dict es n, #[]⟩
noncomputable def HP (b : Heap) (l : List Obj) : Heap := ⟨b.objs ++ l.toArray, b.life⟩
theorem HP_size (b : Heap) (l : List Obj) : (HP b l).objs.size = b.objs.size + l.length := by
  unfold HP; simp
theorem HP_push (b : Heap) (o : Obj) (l : List Obj) : (HP b l).push o = HP b (l ++ [o]) := by
  show Heap.mk _ _ = Heap.mk _ _
  congr 1
  apply Array.ext'
  simp
theorem HP_nil (b : Heap) : HP b [] = b := by
  obtain ⟨o, l⟩ := b
  show Heap.mk _ _ = Heap.mk _ _
  simp
theorem get_of {h : Heap} {a : Addr} {o : Obj} (e : h.objs[a]? = some o) : h.get? a = alive o := by
  unfold Heap.get?
  rw [e]
  obtain ⟨c, d, dt, sl⟩ := o
  cases dt <;> rfl
theorem HP_at {b : Heap} {l : List Obj} {i : Nat} {o : Obj} (e : l[i]? = some o) : (HP b l).get? (b.objs.size + i) = alive o := by
  refine get_of ?_
  unfold HP
  rw [Array.getElem?_append_right (by omega)]
  simpa using e
theorem HP_upd (b : Heap) (l : List Obj) (i : Nat) (g : Obj → Obj) : (HP b l).update (b.objs.size + i) g = HP b (l.modify i g) := by
  show Heap.mk _ _ = Heap.mk _ _
  congr 1
  show (b.objs ++ l.toArray).modify _ _ = b.objs ++ (l.modify i g).toArray
  apply Array.ext_getElem?
  intro j
  rw [Array.getElem?_modify]
  simp only [Array.getElem?_append, List.getElem?_toArray, List.getElem?_modify]
  by_cases h : j < b.objs.size
  · have : b.objs.size + i ≠ j := by omega
    simp [h, this]
  · by_cases h2 : b.objs.size + i = j
    · subst h2; rw [if_neg h, if_pos rfl, if_neg h]; simp
    · have : ¬ i = j - b.objs.size := by omega
      simp [h, h2, this]
/-- a place of the heap where a dict stands that may grow -/
structure Slot (d : Addr) (F : Array DictEntry → Nat → Heap) : Prop where
  get : ∀ es n, (F es n).get? d = some (dobj es n)
  upd : ∀ es n g, (F es n).update d (Obj.mapDictKeys g) = F (g es) (n + 1)
theorem slot_main (b : Heap) (ss : List Obj) : Slot (b.objs.size + 0) (fun es n => HP b (dobj es n :: ss)) := ⟨fun es n => (HP_at (o := dobj es n) (i := 0) rfl).trans rfl, fun es n g => HP_upd ..⟩
theorem slot_last (b : Heap) (l : List Obj) : Slot (b.objs.size + l.length) (fun es n => HP b (l ++ [dobj es n])) := by
  refine ⟨fun es n => (HP_at (o := dobj es n) (by rw [List.getElem?_append_right (Nat.le_refl _), Nat.sub_self]; rfl)).trans rfl, fun es n g => ?_⟩
  rw [HP_upd]
  congr 1
  induction l with
  | nil => rfl
  | cons a l ih => simpa using ih
end Mine
-- HD3
namespace Mine
open PySem PySem.W PyProof.Rows

noncomputable def prs (p : Pos) (L : List (Int × Str)) : List (Sem Value × Sem Value) := L.map fun x => (mkInt x.1, do let y ← mkText x.2; standAt p; Pure.pure y)
noncomputable def ents : Nat → List (Int × Str) → List DictEntry
  | _, [] => []
  | t, x :: r => ⟨hashInt x.1, .int x.1 t, .str x.2 (t + 1)⟩ :: ents (t + 3) r
noncomputable def vals : Nat → List (Int × Str) → List (Value × Value)
  | _, [] => []
  | t, x :: r => (.int x.1 t, .str x.2 (t + 1)) :: vals (t + 2) r
noncomputable def ents2 : Nat → List (Int × Str) → List DictEntry
  | _, [] => []
  | t, x :: r => ⟨hashInt x.1, .int x.1 t, .str x.2 (t + 1)⟩ :: ents2 (t + 2) r

section
variable {w : World} {s : Shared} {q : Pos}
theorem goes_mkInt (i : Int) : Goes w 1 (mkInt i) s q (.int i s.toks) { s with toks := s.toks + 1 } q := Goes.fresh.bind (m := 0) (Goes.pure _)
theorem goes_text (x : Str) (p : Pos) : Goes w 2 (do let y ← mkText x; standAt p; Pure.pure y) s q (.str x s.toks) { s with toks := s.toks + 1 } p :=
  (show Goes w 1 (mkText x) s q (.str x s.toks) { s with toks := s.toks + 1 } q from Goes.fresh.bind (m := 0) (Goes.pure _)).bind (m := 1) ((Goes.at' p).bind (m := 0) (Goes.pure _))

noncomputable abbrev fillBody (d : Addr) : Sem Value × Sem Value → PUnit → Sem (ForInStep PUnit) := fun x __s => match x with
  | (k, v) => do
    let kv ← k
    let vv ← holding [kv] v
    holding [kv, vv] (dictSet d kv vv)
    Pure.pure (ForInStep.yield PUnit.unit)
noncomputable abbrev fillBody2 (d : Addr) : Value × Value → PUnit → Sem (ForInStep PUnit) := fun x __s => match x with
  | (k, v) => do
    dictSet d k v
    Pure.pure (ForInStep.yield PUnit.unit)

theorem goes_for {α : Type} {a : α} {l : List α} {f : α → PUnit → Sem (ForInStep PUnit)} {n m : Nat} {s' s₂ : Shared} {q' q₂ : Pos} (h : Goes w n (f a PUnit.unit) s q (.yield PUnit.unit) s' q') (k : Goes w m (forIn l PUnit.unit f) s' q' PUnit.unit s₂ q₂) :
    Goes w (n + m) (forIn (a :: l) PUnit.unit f) s q PUnit.unit s₂ q₂ := by
  rw [List.forIn_cons]
  exact h.bind k

theorem hash_new {el : List DictEntry} {x : Int × Str} {L : List (Int × Str)} (hn : (el.map (·.hash) ++ (x :: L).map fun x => hashInt x.1).Nodup) : ∀ e ∈ el.toArray, e.hash ≠ hashInt x.1 := by
  intro e he h
  have he : e ∈ el := by simpa using he
  have := (List.nodup_append.mp hn).2.2 e.hash (List.mem_map.mpr ⟨e, he, rfl⟩) (hashInt x.1) (by simp)
  exact this h

theorem goes_fill {d : Addr} {F : Array DictEntry → Nat → Heap} (S : Slot d F) (hl : Nat.ble 11 d = true) (p : Pos) : ∀ (L : List (Int × Str)) (el : List DictEntry) (n : Nat) (s : Shared),
    (el.map (·.hash) ++ L.map fun x => hashInt x.1).Nodup → el.length + L.length < 100000 →
    Goes w (13 * L.length) (forIn (prs p L) PUnit.unit (fillBody d)) { s with heap := F el.toArray n } p PUnit.unit { s with heap := F (el ++ ents s.toks L).toArray (n + L.length), toks := s.toks + 3 * L.length } p
  | [], el, n, s, _, _ => by
    simp only [ents, List.append_nil, List.length_nil, Nat.mul_zero, Nat.add_zero]
    exact Goes.pure _
  | x :: L, el, n, s, hn, hs => by
    have hn' : ((el ++ [(⟨hashInt x.1, .int x.1 s.toks, .str x.2 (s.toks + 1)⟩ : DictEntry)]).map (·.hash) ++ L.map fun x => hashInt x.1).Nodup := by
      simpa using hn
    have ih := goes_fill S hl p L (el ++ [⟨hashInt x.1, .int x.1 s.toks, .str x.2 (s.toks + 1)⟩]) (n + 1) { s with toks := s.toks + 3 } hn' (by simp at hs ⊢; omega)
    have e1 : 13 * (x :: L).length = 13 + 13 * L.length := by rw [List.length_cons]; omega
    rw [e1]
    refine goes_for (m := 13 * L.length) (s' := { s with heap := F (el ++ [(⟨hashInt x.1, .int x.1 s.toks, .str x.2 (s.toks + 1)⟩ : DictEntry)]).toArray (n + 1), toks := s.toks + 3 }) (q' := p) ?_ ?_
    · show Goes w 13 (Sem.bind (mkInt x.1) _) _ p _ _ p
      refine (goes_mkInt x.1).bind (m := 12) ?_
      refine (Goes.holding (goes_text x.2 p) _).bind (m := 10) ?_
      have hset := goes_dictSet (w := w) (s := { s with heap := F el.toArray n, toks := s.toks + 2 }) (q := p) (k := x.1) (t := s.toks) (v := .str x.2 (s.toks + 1)) (S.get el.toArray n) (hash_new hn) hl (by dsimp only; rw [S.upd, S.get]) (by simp at hs ⊢; omega)
      refine (Goes.holding hset _).bind (m := 0) ?_
      dsimp only
      rw [S.upd, List.push_toArray]
      exact Goes.pure _
    · simp only [ents, List.length_cons]
      have e2 : el ++ [(⟨hashInt x.1, .int x.1 s.toks, .str x.2 (s.toks + 1)⟩ : DictEntry)] ++ ents (s.toks + 3) L = el ++ ⟨hashInt x.1, .int x.1 s.toks, .str x.2 (s.toks + 1)⟩ :: ents (s.toks + 3) L := by simp
      rw [e2] at ih
      have e3 : n + 1 + L.length = n + (L.length + 1) := by omega
      have e4 : s.toks + 3 + 3 * L.length = s.toks + 3 * (L.length + 1) := by omega
      dsimp only at ih
      rw [e3, e4] at ih
      exact ih

theorem goes_fill2 {d : Addr} {F : Array DictEntry → Nat → Heap} (S : Slot d F) (hl : Nat.ble 11 d = true) : ∀ (L : List (Int × Str)) (t : Nat) (el : List DictEntry) (n : Nat) (s : Shared),
    (el.map (·.hash) ++ L.map fun x => hashInt x.1).Nodup → el.length + L.length < 100000 →
    Goes w (10 * L.length) (forIn (vals t L) PUnit.unit (fillBody2 d)) { s with heap := F el.toArray n } q PUnit.unit { s with heap := F (el ++ ents2 t L).toArray (n + L.length), toks := s.toks + L.length } q
  | [], t, el, n, s, _, _ => by
    simp only [ents2, List.append_nil, List.length_nil, Nat.mul_zero, Nat.add_zero]
    exact Goes.pure _
  | x :: L, t, el, n, s, hn, hs => by
    have hn' : ((el ++ [(⟨hashInt x.1, .int x.1 t, .str x.2 (t + 1)⟩ : DictEntry)]).map (·.hash) ++ L.map fun x => hashInt x.1).Nodup := by
      simpa using hn
    have ih := goes_fill2 S hl L (t + 2) (el ++ [⟨hashInt x.1, .int x.1 t, .str x.2 (t + 1)⟩]) (n + 1) { s with toks := s.toks + 1 } hn' (by simp at hs ⊢; omega)
    have e1 : 10 * (x :: L).length = 10 + 10 * L.length := by rw [List.length_cons]; omega
    rw [e1]
    refine goes_for (m := 10 * L.length) (s' := { s with heap := F (el ++ [(⟨hashInt x.1, .int x.1 t, .str x.2 (t + 1)⟩ : DictEntry)]).toArray (n + 1), toks := s.toks + 1 }) (q' := q) ?_ ?_
    · have hset := goes_dictSet (w := w) (s := { s with heap := F el.toArray n }) (q := q) (k := x.1) (t := t) (v := .str x.2 (t + 1)) (S.get el.toArray n) (hash_new hn) hl (by dsimp only; rw [S.upd, S.get]) (by simp at hs ⊢; omega)
      refine hset.bind (m := 0) ?_
      dsimp only
      rw [S.upd, List.push_toArray]
      exact Goes.pure _
    · simp only [ents2, List.length_cons]
      have e2 : el ++ [(⟨hashInt x.1, .int x.1 t, .str x.2 (t + 1)⟩ : DictEntry)] ++ ents2 (t + 2) L = el ++ ⟨hashInt x.1, .int x.1 t, .str x.2 (t + 1)⟩ :: ents2 (t + 2) L := by simp
      rw [e2] at ih
      have e3 : n + 1 + L.length = n + (L.length + 1) := by omega
      have e4 : s.toks + 1 + L.length = s.toks + (L.length + 1) := by omega
      dsimp only at ih
      rw [e3, e4] at ih
      exact ih

theorem goes_evalPairs (p : Pos) : ∀ (L : List (Int × Str)) (s : Shared), Goes w (3 * L.length) (evalPairs (prs p L)) s p (vals s.toks L) { s with toks := s.toks + 2 * L.length } p
  | [], s => Goes.pure _
  | x :: L, s => by
    have ih := goes_evalPairs p L { s with toks := s.toks + 2 }
    have e1 : 3 * (x :: L).length = 1 + (2 + (3 * L.length + 0)) := by rw [List.length_cons]; omega
    rw [e1]
    show Goes w _ (Sem.bind (mkInt x.1) _) _ p _ _ p
    refine (goes_mkInt x.1).bind ?_
    refine (Goes.holding (goes_text x.2 p) _).bind ?_
    refine (Goes.holding ih _).bind ?_
    have e4 : s.toks + 2 + 2 * L.length = s.toks + 2 * (L.length + 1) := by omega
    simp only [vals, List.length_cons]
    rw [e4]
    exact Goes.pure _
end
end Mine
-- HD4
namespace Mine
open PySem PySem.W PyProof.Rows
section
variable {w : World} {s : Shared} {q : Pos}

theorem goes_subDict {b : Heap} {l : List Obj} (hl : Nat.ble 11 (b.objs.size + l.length) = true) (p : Pos) (L : List (Int × Str)) (s : Shared) (hn : (L.map fun x => hashInt x.1).Nodup) (h15 : 15 < L.length) (hs : L.length < 100000) :
    Goes w (2 + 13 * L.length) (subDict (prs p L)) { s with heap := HP b l } p (b.objs.size + l.length) { s with heap := HP b (l ++ [dobj (ents s.toks L).toArray L.length]), toks := s.toks + 3 * L.length } p := by
  unfold subDict
  have e1 : 2 + 13 * L.length = 1 + (1 + 13 * L.length + 0) := by omega
  rw [e1]
  refine (Goes.alloc _).bind ?_
  dsimp only
  rw [HP_size, HP_push]
  refine Goes.bind (s' := { s with heap := HP b (l ++ [dobj (ents s.toks L).toArray L.length]), toks := s.toks + 3 * L.length }) (q' := p) (a := ()) ?_ (Goes.pure _)
  refine Goes.holding ?_ _
  rw [if_neg (by unfold prs; simpa using h15)]
  refine (Goes.rule _).bind ?_
  have hf := goes_fill (w := w) (slot_last b l) hl p L [] 0 s (by simpa using hn) (by simpa using hs)
  rw [List.nil_append, Nat.zero_add] at hf
  exact hf.bind (m := 0) (Goes.pure ())

theorem goes_subDict2 {b : Heap} {l : List Obj} (hl : Nat.ble 11 (b.objs.size + l.length) = true) (p : Pos) (L : List (Int × Str)) (s : Shared) (hn : (L.map fun x => hashInt x.1).Nodup) (h15 : L.length ≤ 15) :
    Goes w (1 + 13 * L.length) (subDict (prs p L)) { s with heap := HP b l } p (b.objs.size + l.length) { s with heap := HP b (l ++ [dobj (ents2 s.toks L).toArray L.length]), toks := s.toks + 2 * L.length + L.length } p := by
  unfold subDict
  have e1 : 1 + 13 * L.length = 1 + (3 * L.length + 10 * L.length + 0) := by omega
  rw [e1]
  refine (Goes.alloc _).bind ?_
  dsimp only
  rw [HP_size, HP_push]
  refine Goes.bind (s' := { s with heap := HP b (l ++ [dobj (ents2 s.toks L).toArray L.length]), toks := s.toks + 2 * L.length + L.length }) (q' := p) (a := ()) ?_ (Goes.pure _)
  refine Goes.holding ?_ _
  rw [if_pos (by unfold prs; simpa using h15)]
  refine (goes_evalPairs p L { s with heap := HP b (l ++ [dobj #[] 0]) }).bind ?_
  refine Goes.holding ?_ _
  have hf := goes_fill2 (w := w) (q := p) (slot_last b l) hl L s.toks [] 0 { s with toks := s.toks + 2 * L.length } (by simpa using hn) (by simp; omega)
  rw [List.nil_append, Nat.zero_add] at hf
  exact hf.bind (m := 0) (Goes.pure ())

theorem goes_dictEpoch {d : Addr} {c : Value} {dd : Option Addr} {es : Array DictEntry} {n : Nat} {sl : Array (Option Value)} (part : Option Value) (e : s.heap.get? d = some ⟨c, dd, .dict es n, sl⟩) : Goes w 1 (dictEpoch d part) s q n s q := by
  unfold dictEpoch
  exact (Goes.loadPart part e).bind (m := 0) (Goes.pure n)

noncomputable abbrev mergeBody (d a : Addr) (epoch : Nat) : Nat → PUnit → Sem (ForInStep PUnit) := fun i __s => do
  let __do_lift ← dictEntries a
  match __do_lift[i]? with
    | some e => do
      holding [e.key, e.val] (dictPut d e.hash e.key e.val)
      let __do_lift ← dictEpoch a
      if (__do_lift != epoch) = true then do
          unsupported "dict.changed-during-merge"
          Pure.pure (ForInStep.yield PUnit.unit)
        else Pure.pure (ForInStep.yield PUnit.unit)
    | x => do
      unsupported "dict.changed-during-merge"
      Pure.pure (ForInStep.yield PUnit.unit)

noncomputable def IntEnt (e : DictEntry) : Prop := ∃ k t v, e = ⟨hashInt k, .int k t, v⟩

theorem goes_merge_loop {b : Heap} (hl : Nat.ble 11 (b.objs.size + 0) = true) (ss : List Obj) (eu : List DictEntry) (m : Nat) (he : ∀ e ∈ eu, IntEnt e) : ∀ (k i : Nat) (em : List DictEntry) (n : Nat) (s : Shared),
    i + k = eu.length → ((em ++ eu.drop i).map (·.hash)).Nodup → em.length + k < 100000 →
    Goes w (6 * k) (forIn (List.range' i k) PUnit.unit (mergeBody (b.objs.size + 0) (b.objs.size + (1 + ss.length)) m)) { s with heap := HP b (dobj em.toArray n :: (ss ++ [dobj eu.toArray m])) } q PUnit.unit
      { s with heap := HP b (dobj (em ++ eu.drop i).toArray (n + k) :: (ss ++ [dobj eu.toArray m])) } q
  | 0, i, em, n, s, hi, _, _ => by
    have : eu.drop i = [] := List.drop_eq_nil_of_le (by omega)
    rw [this, List.append_nil]
    exact Goes.pure _
  | k + 1, i, em, n, s, hi, hn, hs => by
    have hlt : i < eu.length := by omega
    have hd : eu.drop i = eu[i] :: eu.drop (i + 1) := List.drop_eq_getElem_cons hlt
    have ih := goes_merge_loop hl ss eu m he k (i + 1) (em ++ [eu[i]]) (n + 1) s (by omega) (by rw [List.append_assoc, List.singleton_append, ← hd]; exact hn) (by simp; omega)
    have e1 : 6 * (k + 1) = 6 + 6 * k := by omega
    rw [e1, List.range'_succ]
    have S := slot_main b (ss ++ [dobj eu.toArray m])
    have ga : ∀ mm, (HP b (mm :: (ss ++ [dobj eu.toArray m]))).get? (b.objs.size + (1 + ss.length)) = some (dobj eu.toArray m) := fun mm =>
      (HP_at (o := dobj eu.toArray m) (by rw [Nat.add_comm 1, List.getElem?_cons_succ, List.getElem?_append_right (Nat.le_refl _), Nat.sub_self]; rfl)).trans rfl
    obtain ⟨kk, t, v, hkk⟩ := he eu[i] (List.getElem_mem hlt)
    refine goes_for (m := 6 * k) (s' := { s with heap := HP b (dobj (em ++ [eu[i]]).toArray (n + 1) :: (ss ++ [dobj eu.toArray m])) }) (q' := q) ?_ ?_
    · refine (goes_dictEntries (s := { s with heap := HP b (dobj em.toArray n :: (ss ++ [dobj eu.toArray m])) }) _ (ga _)).bind (m := 5) ?_
      rw [List.getElem?_toArray, List.getElem?_eq_getElem hlt]
      dsimp only
      have hput := goes_dictPut (w := w) (s := { s with heap := HP b (dobj em.toArray n :: (ss ++ [dobj eu.toArray m])) }) (q := q) (k := kk) (t := t) (v := v) (S.get em.toArray n) (by
        intro e hem h
        have hem : e ∈ em := by simpa using hem
        rw [hd, List.map_append, List.map_cons, hkk] at hn
        exact (List.nodup_append.mp hn).2.2 e.hash (List.mem_map.mpr ⟨e, hem, rfl⟩) (hashInt kk) (by simp) h) hl (by dsimp only; rw [S.upd, S.get]) (by simp; omega)
      rw [S.upd, List.push_toArray, ← hkk] at hput
      have hput' : Goes w 4 (dictPut (b.objs.size + 0) eu[i].hash eu[i].key eu[i].val) { s with heap := HP b (dobj em.toArray n :: (ss ++ [dobj eu.toArray m])) } q () { s with heap := HP b (dobj (em ++ [eu[i]]).toArray (n + 1) :: (ss ++ [dobj eu.toArray m])) } q := by
        rw [show eu[i].hash = hashInt kk by rw [hkk], show eu[i].key = .int kk t by rw [hkk], show eu[i].val = v by rw [hkk]]
        exact hput
      refine (Goes.holding hput' _).bind (m := 1) ?_
      refine (goes_dictEpoch (s := { s with heap := HP b (dobj (em ++ [eu[i]]).toArray (n + 1) :: (ss ++ [dobj eu.toArray m])) }) _ (ga _)).bind (m := 0) ?_
      rw [if_neg (by simp)]
      exact Goes.pure _
    · rw [hd]
      have e2 : em ++ [eu[i]] ++ eu.drop (i + 1) = em ++ eu[i] :: eu.drop (i + 1) := by simp
      have e3 : n + 1 + k = n + (k + 1) := by omega
      rw [e2, e3] at ih
      exact ih
end
end Mine
-- HD5
namespace Mine
open PySem PySem.W PyProof.Rows
theorem isSub_dict : isSubtype (.type "dict") (.type "dict") = Sem.pure true := by kernel_rfl
theorem look_iter : typeLookup (.type "dict") (Str.ofString "__iter__") = Sem.pure (some (.builtin "dict.__iter__")) := by kernel_rfl
section
variable {w : World} {s : Shared} {q : Pos}
theorem goes_isDict {a : Addr} {o : Obj} (e : s.heap.get? a = some o) (hc : o.cls = .type "dict") : Goes w 1 (isInstance (.ref a) (.type "dict")) s q true s q := by
  unfold isInstance
  refine Goes.bind (n := 1) (m := 0) (a := .type "dict") (s' := s) (q' := q) ?_ ?_
  · unfold typeOf
    refine (Goes.loadPart _ e).bind (m := 0) ?_
    rw [hc]
    exact Goes.pure _
  · rw [isSub_dict]
    exact Goes.pure _
theorem goes_iterOf {a : Addr} {o : Obj} (e : s.heap.get? a = some o) (hc : o.cls = .type "dict") : Goes w 1 (specialOf (.ref a) (Str.ofString "__iter__")) s q (some (.builtin "dict.__iter__")) s q := by
  unfold specialOf
  refine Goes.bind (n := 1) (m := 0) (a := .type "dict") (s' := s) (q' := q) ?_ ?_
  · unfold typeOf
    refine (Goes.loadPart _ e).bind (m := 0) ?_
    rw [hc]
    exact Goes.pure _
  · rw [look_iter]
    exact Goes.pure _

theorem goes_merge {b : Heap} (hl : Nat.ble 11 (b.objs.size + 0) = true) (ss : List Obj) (eu : List DictEntry) (m : Nat) (he : ∀ e ∈ eu, IntEnt e) (em : List DictEntry) (n : Nat) (s : Shared)
    (hn : ((em ++ eu).map (·.hash)).Nodup) (hs : em.length + eu.length < 100000) (h0 : em ≠ []) :
    Goes w (5 + 6 * eu.length) (mergeMapping (b.objs.size + 0) (.ref (b.objs.size + (1 + ss.length))) false) { s with heap := HP b (dobj em.toArray n :: (ss ++ [dobj eu.toArray m])) } q ()
      { s with heap := HP b (dobj (em ++ eu).toArray (n + eu.length) :: (ss ++ [dobj eu.toArray m])) } q := by
  have ga : ∀ mm, (HP b (mm :: (ss ++ [dobj eu.toArray m]))).get? (b.objs.size + (1 + ss.length)) = some (dobj eu.toArray m) := fun mm =>
    (HP_at (o := dobj eu.toArray m) (by rw [Nat.add_comm 1, List.getElem?_cons_succ, List.getElem?_append_right (Nat.le_refl _), Nat.sub_self]; rfl)).trans rfl
  have gd : (HP b (dobj em.toArray n :: (ss ++ [dobj eu.toArray m]))).get? (b.objs.size + 0) = some (dobj em.toArray n) := (slot_main b _).get _ _
  have hsm : (b.objs.size + (1 + ss.length) == sysModules) = false := by
    have := Nat.le_of_ble_eq_true hl
    simp [sysModules]; omega
  have hloop := goes_merge_loop (w := w) (q := q) hl ss eu m he eu.length 0 em n s (by omega) (by simpa using hn) hs
  rw [List.drop_zero, ← List.range_eq_range'] at hloop
  refine Goes.mono (n := 1 + (1 + (0 + (1 + (1 + (1 + (6 * eu.length + 0))))))) ?_ (by omega)
  unfold mergeMapping
  refine (goes_isDict (s := { s with heap := HP b (dobj em.toArray n :: (ss ++ [dobj eu.toArray m])) }) (ga _) rfl).bind ?_
  dsimp only
  rw [if_pos rfl]
  refine (goes_iterOf (s := { s with heap := HP b (dobj em.toArray n :: (ss ++ [dobj eu.toArray m])) }) (ga _) rfl).bind ?_
  rw [show (some (Value.builtin "dict.__iter__") == some (Value.builtin "dict.__iter__")) = true from by simp]
  refine (Goes.pure true).bind ?_
  dsimp only
  rw [if_neg (by rw [hsm]; exact Bool.false_ne_true)]
  refine (goes_dictEntries (s := { s with heap := HP b (dobj em.toArray n :: (ss ++ [dobj eu.toArray m])) }) _ gd).bind ?_
  rw [if_neg (by simpa using h0)]
  refine (goes_dictEntries (s := { s with heap := HP b (dobj em.toArray n :: (ss ++ [dobj eu.toArray m])) }) _ (ga _)).bind ?_
  refine (goes_dictEpoch (s := { s with heap := HP b (dobj em.toArray n :: (ss ++ [dobj eu.toArray m])) }) _ (ga _)).bind ?_
  exact hloop.bind (Goes.pure ())
end
end Mine
-- HD6
namespace Mine
open PySem PySem.W PyProof.Rows
noncomputable abbrev Pr := Sem Value × Sem Value
noncomputable def flushD (run : List Pr) (main : Option Addr) : Sem (Option Addr) :=
  if run.isEmpty = true then pure main
  else match main with
    | none => do
      let x ← subDict run
      pure (some x)
    | some d => do
      let sub ← holding [.ref d] (subDict run)
      (holding [.ref d, .ref sub] (mergeMapping d (.ref sub) false)).onRaise fun x => do
        let _ ← holding [.ref d, x] (runValue (Code.builtin "proto.let_go" { }))
        pure ()
      pure (some d)
noncomputable def itemsOf (c : List Pr) : List (Option (Sem Value) × Sem Value) := c.map fun x => (some x.1, x.2)
noncomputable def ItemF (f : Option (Sem Value) × Sem Value → Option Addr × List Pr → Sem (ForInStep (Option Addr × List Pr))) : Prop :=
  ∀ k v main run, f (some k, v) (main, run) = (if ((run ++ [(k, v)]).length == 17) = true then (flushD (run ++ [(k, v)]) main).bind fun m => .pure (.yield (m, [])) else .pure (.yield (main, run ++ [(k, v)])))
theorem ents_length : ∀ (t : Nat) (L : List (Int × Str)), (ents t L).length = L.length
  | _, [] => rfl
  | t, x :: r => by rw [ents, List.length_cons, List.length_cons, ents_length]
theorem ents_hash : ∀ (t : Nat) (L : List (Int × Str)), (ents t L).map (·.hash) = L.map fun x => hashInt x.1
  | _, [] => rfl
  | t, x :: r => by rw [ents, List.map_cons, List.map_cons, ents_hash]
theorem ents_int : ∀ (t : Nat) (L : List (Int × Str)), ∀ e ∈ ents t L, IntEnt e
  | _, [], e, h => by cases h
  | t, x :: r, e, h => by
    rw [ents] at h
    rcases List.mem_cons.mp h with rfl | h
    · exact ⟨_, _, _, rfl⟩
    · exact ents_int _ r e h
theorem ents2_length : ∀ (t : Nat) (L : List (Int × Str)), (ents2 t L).length = L.length
  | _, [] => rfl
  | t, x :: r => by rw [ents2, List.length_cons, List.length_cons, ents2_length]
theorem ents2_hash : ∀ (t : Nat) (L : List (Int × Str)), (ents2 t L).map (·.hash) = L.map fun x => hashInt x.1
  | _, [] => rfl
  | t, x :: r => by rw [ents2, List.map_cons, List.map_cons, ents2_hash]
theorem ents2_int : ∀ (t : Nat) (L : List (Int × Str)), ∀ e ∈ ents2 t L, IntEnt e
  | _, [], e, h => by cases h
  | t, x :: r, e, h => by
    rw [ents2] at h
    rcases List.mem_cons.mp h with rfl | h
    · exact ⟨_, _, _, rfl⟩
    · exact ents2_int _ r e h

section
variable {w : World} {p : Pos} {f : Option (Sem Value) × Sem Value → Option Addr × List Pr → Sem (ForInStep (Option Addr × List Pr))}

theorem goes_run (hf : ItemF f) : ∀ (c run : List Pr) (main : Option Addr) (rest : List (Option (Sem Value) × Sem Value)) {n : Nat} {s s' : Shared} {q q' : Pos} {a : Option Addr × List Pr}, run.length + c.length < 17 →
    Goes w n (forIn rest (main, run ++ c) f) s q a s' q' → Goes w n (forIn (itemsOf c ++ rest) (main, run) f) s q a s' q'
  | [], run, main, rest, n, s, s', q, q', a, _, h => by simpa [itemsOf] using h
  | x :: c, run, main, rest, n, s, s', q, q', a, hl, h => by
    show Goes w n (forIn ((some x.1, x.2) :: (itemsOf c ++ rest)) (main, run) f) s q a s' q'
    rw [List.forIn_cons, hf, if_neg (by simp at hl ⊢; omega)]
    refine Goes.mono (n := 0 + n) ((Goes.pure _).bind ?_) (by omega)
    exact goes_run hf c (run ++ [(x.1, x.2)]) main rest (by simp at hl ⊢; omega) (by simpa using h)

theorem goes_chunk (hf : ItemF f) (c : List Pr) (main : Option Addr) (rest : List (Option (Sem Value) × Sem Value)) {n m : Nat} {s s' s₂ : Shared} {q q' q₂ : Pos} {a : Option Addr × List Pr} {d : Option Addr} (hc : c.length = 17)
    (h1 : Goes w m (flushD c main) s q d s₂ q₂) (h2 : Goes w n (forIn rest (d, []) f) s₂ q₂ a s' q') : Goes w (m + n) (forIn (itemsOf c ++ rest) (main, []) f) s q a s' q' := by
  have hd : c = c.dropLast ++ [c.getLast (by intro e; rw [e] at hc; cases hc)] := (List.dropLast_concat_getLast _).symm
  generalize hx : c.getLast _ = x at hd
  have hl : c.dropLast.length = 16 := by rw [List.length_dropLast, hc]
  rw [hd]
  show Goes w (m + n) (forIn (List.map _ (c.dropLast ++ [x]) ++ rest) (main, []) f) s q a s' q'
  rw [List.map_append, List.append_assoc]
  refine goes_run hf c.dropLast [] main _ (by rw [hl]; decide) ?_
  show Goes w (m + n) (forIn ((some x.1, x.2) :: rest) (main, [] ++ c.dropLast) f) s q a s' q'
  rw [List.forIn_cons, hf, List.nil_append, if_pos (by rw [List.length_append, hl]; rfl)]
  have h1' : Goes w m (flushD (c.dropLast ++ [(x.1, x.2)]) main) s q d s₂ q₂ := by
    have : c.dropLast ++ [(x.1, x.2)] = c := hd.symm
    rw [this]; exact h1
  exact Goes.bind (n := m) (m := n) (h1'.bind (m := 0) (Goes.pure _)) h2

theorem goes_flush_first {b : Heap} (hl : Nat.ble 11 b.objs.size = true) (L : List (Int × Str)) (s : Shared) (hn : (L.map fun x => hashInt x.1).Nodup) (h15 : 15 < L.length) (hs : L.length < 100000) :
    Goes w (2 + 13 * L.length) (flushD (prs p L) none) { s with heap := b } p (some b.objs.size) { s with heap := HP b [dobj (ents s.toks L).toArray L.length], toks := s.toks + 3 * L.length } p := by
  unfold flushD
  rw [if_neg (by unfold prs; cases L with | nil => simp at h15 | cons => simp)]
  have h := goes_subDict (w := w) (b := b) (l := []) (by simpa using hl) p L s hn h15 hs
  rw [HP_nil] at h
  exact h.bind (m := 0) (Goes.pure _)

theorem goes_flush {b : Heap} (hl : Nat.ble 11 (b.objs.size + 0) = true) (ss : List Obj) (em : List DictEntry) (n : Nat) (h0 : em ≠ []) (L : List (Int × Str)) (s : Shared) (hn : (em.map (·.hash) ++ L.map fun x => hashInt x.1).Nodup) (h15 : 15 < L.length) (hs : em.length + L.length < 100000) :
    Goes w (7 + 19 * L.length) (flushD (prs p L) (some (b.objs.size + 0))) { s with heap := HP b (dobj em.toArray n :: ss) } p (some (b.objs.size + 0))
      { s with heap := HP b (dobj (em ++ ents s.toks L).toArray (n + L.length) :: (ss ++ [dobj (ents s.toks L).toArray L.length])), toks := s.toks + 3 * L.length } p := by
  have hL := ents_length s.toks L
  unfold flushD
  rw [if_neg (by unfold prs; cases L with | nil => simp at h15 | cons => simp)]
  refine Goes.mono (n := 2 + 13 * L.length + (5 + 6 * (ents s.toks L).length + 0)) ?_ (by omega)
  have h := goes_subDict (w := w) (b := b) (l := dobj em.toArray n :: ss) (by have := Nat.le_of_ble_eq_true hl; exact Nat.ble_eq_true_of_le (by omega)) p L s (List.nodup_append.mp hn).2.1 h15 (by omega)
  have hsz : b.objs.size + (dobj em.toArray n :: ss).length = b.objs.size + (1 + ss.length) := by rw [List.length_cons]; omega
  rw [hsz] at h
  refine (Goes.holding h _).bind ?_
  have hm := goes_merge (w := w) (q := p) hl ss (ents s.toks L) L.length (ents_int _ _) em n { s with toks := s.toks + 3 * L.length } (by rw [List.map_append, ents_hash]; exact hn) (by omega) h0
  rw [hL] at hm ⊢
  exact ((Goes.holding hm _).onRaise _).bind (Goes.pure _)

theorem goes_flush2 {b : Heap} (hl : Nat.ble 11 (b.objs.size + 0) = true) (ss : List Obj) (em : List DictEntry) (n : Nat) (h0 : em ≠ []) (L : List (Int × Str)) (s : Shared) (hn : (em.map (·.hash) ++ L.map fun x => hashInt x.1).Nodup) (h1 : L ≠ []) (h15 : L.length ≤ 15) (hs : em.length + L.length < 100000) :
    Goes w (7 + 19 * L.length) (flushD (prs p L) (some (b.objs.size + 0))) { s with heap := HP b (dobj em.toArray n :: ss) } p (some (b.objs.size + 0))
      { s with heap := HP b (dobj (em ++ ents2 s.toks L).toArray (n + L.length) :: (ss ++ [dobj (ents2 s.toks L).toArray L.length])), toks := s.toks + 2 * L.length + L.length } p := by
  have hL := ents2_length s.toks L
  unfold flushD
  rw [if_neg (by unfold prs; cases L with | nil => exact absurd rfl h1 | cons => simp)]
  refine Goes.mono (n := 1 + 13 * L.length + (5 + 6 * (ents2 s.toks L).length + 0)) ?_ (by omega)
  have h := goes_subDict2 (w := w) (b := b) (l := dobj em.toArray n :: ss) (by have := Nat.le_of_ble_eq_true hl; exact Nat.ble_eq_true_of_le (by omega)) p L s (List.nodup_append.mp hn).2.1 h15
  have hsz : b.objs.size + (dobj em.toArray n :: ss).length = b.objs.size + (1 + ss.length) := by rw [List.length_cons]; omega
  rw [hsz] at h
  refine (Goes.holding h _).bind ?_
  have hm := goes_merge (w := w) (q := p) hl ss (ents2 s.toks L) L.length (ents2_int _ _) em n { s with toks := s.toks + 2 * L.length + L.length } (by rw [List.map_append, ents2_hash]; exact hn) (by omega) h0
  rw [hL] at hm ⊢
  exact ((Goes.holding hm _).onRaise _).bind (Goes.pure _)

noncomputable def subsC : Nat → List (List (Int × Str)) → List Obj
  | _, [] => []
  | t, c :: cs => dobj (ents t c).toArray c.length :: subsC (t + 3 * c.length) cs
theorem ents_append : ∀ (t : Nat) (L M : List (Int × Str)), ents t (L ++ M) = ents t L ++ ents (t + 3 * L.length) M
  | t, [], M => rfl
  | t, x :: L, M => by
    rw [List.cons_append, ents, ents, ents_append, List.cons_append, List.length_cons]
    have : t + 3 + 3 * L.length = t + 3 * (L.length + 1) := by omega
    rw [this]

theorem goes_chunks (hf : ItemF f) {b : Heap} (hl : Nat.ble 11 (b.objs.size + 0) = true) (rest : List (Option (Sem Value) × Sem Value)) : ∀ (cs : List (List (Int × Str))) (ss : List Obj) (em : List DictEntry) (n : Nat) (s : Shared) {m : Nat} {s' : Shared} {q' : Pos} {a : Option Addr × List Pr},
    em ≠ [] → (em.map (·.hash) ++ cs.flatten.map fun x => hashInt x.1).Nodup → (∀ c ∈ cs, c.length = 17) → em.length + cs.flatten.length < 100000 →
    Goes w m (forIn rest (some (b.objs.size + 0), []) f) { s with heap := HP b (dobj (em ++ ents s.toks cs.flatten).toArray (n + cs.flatten.length) :: (ss ++ subsC s.toks cs)), toks := s.toks + 3 * cs.flatten.length } p a s' q' →
    Goes w (330 * cs.length + m) (forIn (itemsOf (prs p cs.flatten) ++ rest) (some (b.objs.size + 0), []) f) { s with heap := HP b (dobj em.toArray n :: ss) } p a s' q'
  | [], ss, em, n, s, m, s', q', a, _, _, _, _, h => by
    simp only [List.flatten_nil, ents, List.append_nil, subsC, List.length_nil, Nat.mul_zero, Nat.add_zero] at h
    simpa [itemsOf, prs] using h
  | c :: cs, ss, em, n, s, m, s', q', a, h0, hn, hc, hs, h => by
    have hc17 := hc c (List.mem_cons_self ..)
    simp only [List.flatten_cons, List.length_append, List.map_append] at hn hs h
    have e1 : itemsOf (prs p (c :: cs).flatten) ++ rest = itemsOf (prs p c) ++ (itemsOf (prs p cs.flatten) ++ rest) := by
      simp [itemsOf, prs]
    rw [e1]
    refine Goes.mono (n := 7 + 19 * c.length + (330 * cs.length + m)) ?_ (by rw [hc17, List.length_cons]; omega)
    have hn1 : (em.map (·.hash) ++ c.map fun x => hashInt x.1).Nodup := by
      rw [← List.append_assoc] at hn
      exact (List.nodup_append.mp hn).1
    refine goes_chunk hf (prs p c) _ _ (by unfold prs; rw [List.length_map, hc17]) (goes_flush hl ss em n h0 c s hn1 (by omega) (by omega)) ?_
    refine goes_chunks hf hl rest cs (ss ++ [dobj (ents s.toks c).toArray c.length]) (em ++ ents s.toks c) (n + c.length) { s with toks := s.toks + 3 * c.length } ?_ ?_ (fun d hd => hc d (List.mem_cons_of_mem _ hd)) ?_ ?_
    · intro e; exact h0 (List.append_eq_nil_iff.mp e).1
    · rw [List.map_append, ents_hash, List.append_assoc]; exact hn
    · rw [List.length_append, ents_length]; omega
    · rw [ents_append] at h
      have e2 : s.toks + 3 * c.length + 3 * cs.flatten.length = s.toks + 3 * (c.length + cs.flatten.length) := by omega
      have e3 : n + c.length + cs.flatten.length = n + (c.length + cs.flatten.length) := by omega
      dsimp only
      rw [e2, e3, List.append_assoc, List.append_assoc]
      exact h
end
end Mine
-- HD7
namespace Mine
open PySem PySem.W PyProof.Rows
section
variable {w : World} {p : Pos}
theorem goes_display {b : Heap} (hl : Nat.ble 11 b.objs.size = true) (c1 last : List (Int × Str)) (cs : List (List (Int × Str))) (s : Shared)
    (h1 : c1.length = 17) (hc : ∀ c ∈ cs, c.length = 17) (hlast : last ≠ []) (h15 : last.length ≤ 15) (hn : ((c1 ++ cs.flatten ++ last).map fun x => hashInt x.1).Nodup) (hs : (c1 ++ cs.flatten ++ last).length < 100000) :
    Goes w (330 * (cs.length + 2)) (dictDisplay (itemsOf (prs p (c1 ++ cs.flatten ++ last)))) { s with heap := b } p (.ref b.objs.size)
      { s with heap := HP b (dobj (ents s.toks (c1 ++ cs.flatten) ++ ents2 (s.toks + 3 * (c1 ++ cs.flatten).length) last).toArray ((c1 ++ cs.flatten).length + last.length) :: (subsC (s.toks + 3 * c1.length) cs ++ [dobj (ents2 (s.toks + 3 * (c1 ++ cs.flatten).length) last).toArray last.length])), toks := s.toks + 3 * (c1 ++ cs.flatten).length + 2 * last.length + last.length } p := by
  have hn1 : (c1.map fun x => hashInt x.1).Nodup := by
    rw [List.map_append, List.map_append] at hn
    exact (List.nodup_append.mp (List.nodup_append.mp hn).1).1
  have hn2 : ((ents s.toks c1).map (·.hash) ++ cs.flatten.map fun x => hashInt x.1).Nodup := by
    rw [ents_hash]
    rw [List.map_append, List.map_append] at hn
    exact (List.nodup_append.mp hn).1
  have hne : ents s.toks c1 ≠ [] := by
    intro e
    have := ents_length s.toks c1
    rw [e, h1] at this
    cases this
  have hn3 : ((ents s.toks c1 ++ ents (s.toks + 3 * c1.length) cs.flatten).map (·.hash) ++ last.map fun x => hashInt x.1).Nodup := by
    rw [List.map_append, ents_hash, ents_hash, ← List.map_append, ← List.map_append]
    exact hn
  simp only [List.length_append] at hs
  have hl0 : Nat.ble 11 (b.objs.size + 0) = true := hl
  have hl5 : last.length ≤ 15 := h15
  unfold dictDisplay
  refine Goes.mono (n := (2 + 13 * c1.length + (330 * cs.length + 0)) + ((7 + 19 * last.length) + 0)) ?_ (by omega)
  have e1 : itemsOf (prs p (c1 ++ cs.flatten ++ last)) = itemsOf (prs p c1) ++ (itemsOf (prs p cs.flatten) ++ itemsOf (prs p last)) := by
    simp [itemsOf, prs]
  rw [e1]
  refine Goes.bind (a := (some (b.objs.size + 0), prs p last)) (q' := p) (s' := { s with heap := HP b (dobj (ents s.toks c1 ++ ents (s.toks + 3 * c1.length) cs.flatten).toArray (c1.length + cs.flatten.length) :: ([] ++ subsC (s.toks + 3 * c1.length) cs)), toks := s.toks + 3 * c1.length + 3 * cs.flatten.length })
    (goes_chunk (fun _ _ _ _ => rfl) (prs p c1) none _ (by unfold prs; rw [List.length_map, h1]) (goes_flush_first hl c1 s hn1 (by omega) (by omega)) ?_) ?_
  · refine goes_chunks (fun _ _ _ _ => rfl) hl0 _ cs [] (ents s.toks c1) c1.length { s with toks := s.toks + 3 * c1.length } hne hn2 hc (by rw [ents_length]; omega) ?_
    rw [← List.append_nil (itemsOf (prs p last))]
    refine goes_run (fun _ _ _ _ => rfl) (prs p last) [] _ [] (by unfold prs; rw [List.length_map]; simp; omega) ?_
    exact Goes.pure _
  · refine (goes_flush2 hl0 _ _ _ (by intro e; exact hne (List.append_eq_nil_iff.mp e).1) last { s with toks := s.toks + 3 * c1.length + 3 * cs.flatten.length } hn3 hlast h15 (by rw [List.length_append, ents_length, ents_length]; omega)).bind ?_
    have e2 : s.toks + 3 * c1.length + 3 * cs.flatten.length = s.toks + 3 * (c1 ++ cs.flatten).length := by rw [List.length_append]; omega
    dsimp only
    rw [ents_append, e2, List.nil_append, List.length_append, Nat.add_zero]
    rw [List.length_append] at e2
    exact Goes.pure _
end
end Mine
-- HO
namespace Mine
open PySem PySem.W PyProof.Rows
noncomputable def fdA (i : Nat) : Arguments := match stAt i with | .FunctionDef _ a _ _ _ _ _ _ _ _ => a | _ => default
noncomputable def fdB (i : Nat) : List Stmt := match stAt i with | .FunctionDef _ _ b _ _ _ _ _ _ _ => b | _ => []
noncomputable def fdS (i : Nat) : Scope := match stAt i with | .FunctionDef _ _ _ _ _ _ s _ _ _ => s | _ => default
noncomputable def b3V : Expr := match stAt 15 with | .Assign _ v _ => v | _ => .Constant .none 0 default
noncomputable def b3T : List Expr := match stAt 15 with | .Assign t _ _ => t | _ => []
noncomputable def b3P : Pos := match stAt 15 with | .Assign _ _ p => p | _ => default
noncomputable def b3K : List (Option Expr) := match b3V with | .Dict k _ _ => k | _ => []
noncomputable def b3W : List Expr := match b3V with | .Dict _ v _ => v | _ => []
noncomputable def b3Q : Pos := match b3V with | .Dict _ _ p => p | _ => default
noncomputable def cInt : Option Expr → Int
  | some (.Constant (.int i) _ _) => i
  | _ => 0
noncomputable def cStr : Expr → Str
  | .Constant (.str x) _ _ => x
  | _ => Str.ofString ""
noncomputable def b3L0 : List (Int × Str) := (b3K.map cInt).zip (b3W.map cStr)
noncomputable def chunks : Nat → List (Int × Str) → List (List (Int × Str))
  | 0, _ => []
  | n + 1, l => l.take 17 :: chunks n (l.drop 17)
noncomputable def b3C1 : List (Int × Str) := b3L0.take 17
noncomputable def b3CS : List (List (Int × Str)) := chunks 37 (b3L0.drop 17)
noncomputable def b3End : List (Int × Str) := b3L0.drop 646
noncomputable def b3E : List DictEntry := ents 438 (b3C1 ++ b3CS.flatten) ++ ents2 2376 b3End
noncomputable def b3Sub : List Obj := subsC 489 b3CS ++ [dobj (ents2 2376 b3End).toArray 4]
noncomputable def fnA (s : Stmt) : Arguments := match s with | .FunctionDef _ a _ _ _ _ _ _ _ _ => a | _ => default
noncomputable def fnB (s : Stmt) : List Stmt := match s with | .FunctionDef _ _ b _ _ _ _ _ _ _ => b | _ => []
noncomputable def fnS (s : Stmt) : Scope := match s with | .FunctionDef _ _ _ _ _ _ s _ _ _ => s | _ => default
noncomputable def mth (i : Nat) : Stmt := match stAt 2 with | .ClassDef _ _ _ b _ _ _ _ _ _ _ => (b.drop i).headD (.Pass default) | _ => .Pass default
noncomputable def h_11_S : Params → Obj := fun P => ⟨(.type "tuple"), none, (.seq #[] 0), #[]⟩
noncomputable def h_12_S : Params → Obj := fun P => ⟨.none, none, (.fields #[]), #[]⟩
noncomputable def h_13_S : Params → Obj := fun P => ⟨(.type "code"), none, (.fields #[(.str (Str.ofString "<module>") 182), (.str (Str.ofString "<module>") 183), (.str (Str.ofString "/claim/cut.py") 184), (.int 1 0), (.int 0 0), (.int 0 0), (.int 0 0), (.int 0 0), (.ref 11), (.bool false), (.int 181 0), (.ref 12), .none, .none, .none, .none, (.int 185 0), (.int 1 0), (.str (Str.ofString "/claim/cut.py") 186)]), #[]⟩
noncomputable def h_14_S : Params → Obj := fun P => ⟨(.type "frame"), none, .plain, #[some (.ref 13), some (.ref 3), some (.ref 3), none, some (.str (Str.ofString "__main__") 164), none, some (.ref 0)]⟩
noncomputable def tr_S : Params → BT := fun P => (.node (PySem.W.boot_o_0 P) (.node (PySem.W.boot_o_1 P) (.node (PySem.W.boot_o_3 P) (.node (PySem.W.boot_o_7 P) .nil .nil) (.node (h_11_S P) .nil .nil)) (.node (PySem.W.boot_o_5 P) (.node (PySem.W.boot_o_9 P) .nil .nil) (.node (h_13_S P) .nil .nil))) (.node (PySem.W.boot_o_2 P) (.node (PySem.W.boot_o_4 P) (.node (PySem.W.boot_o_8 P) .nil .nil) (.node (h_12_S P) .nil .nil)) (.node (PySem.W.boot_o_6 P) (.node (PySem.W.boot_o_10 P) .nil .nil) (.node (h_14_S P) .nil .nil))))
noncomputable def h_3_12 : Params → Obj := fun P => ⟨(.type "dict"), none, (.dict #[⟨PyData.keyHash P (Str.ofString "__name__"), (.str (Str.ofString "__name__") 165), (.str (Str.ofString "cpy313.stringprep") 369)⟩, ⟨PyData.keyHash P (Str.ofString "__doc__"), (.str (Str.ofString "__doc__") 166), .none⟩, ⟨PyData.keyHash P (Str.ofString "__package__"), (.str (Str.ofString "__package__") 167), .none⟩, ⟨PyData.keyHash P (Str.ofString "__loader__"), (.str (Str.ofString "__loader__") 168), (.builtin "__main__.__loader__#opaque")⟩, ⟨PyData.keyHash P (Str.ofString "__spec__"), (.str (Str.ofString "__spec__") 169), .none⟩, ⟨PyData.keyHash P (Str.ofString "__annotations__"), (.str (Str.ofString "__annotations__") 170), (.ref 6)⟩, ⟨PyData.keyHash P (Str.ofString "__builtins__"), (.str (Str.ofString "__builtins__") 171), (.ref 4)⟩, ⟨PyData.keyHash P (Str.ofString "__file__"), (.str (Str.ofString "__file__") 173), (.str (Str.ofString "/claim/cut.py") 172)⟩, ⟨PyData.keyHash P (Str.ofString "__cached__"), (.str (Str.ofString "__cached__") 174), .none⟩, ⟨PyData.keyHash P (Str.ofString "_wall"), (.str (Str.ofString "_wall") 193), (.ref 21)⟩, ⟨PyData.keyHash P (Str.ofString "Whitespace"), (.str (Str.ofString "Whitespace") 293), (.ref 83)⟩, ⟨PyData.keyHash P (Str.ofString "and_"), (.str (Str.ofString "and_") 303), (.ref 94)⟩, ⟨PyData.keyHash P (Str.ofString "lshift"), (.str (Str.ofString "lshift") 311), (.ref 101)⟩, ⟨PyData.keyHash P (Str.ofString "or_"), (.str (Str.ofString "or_") 319), (.ref 108)⟩, ⟨PyData.keyHash P (Str.ofString "rshift"), (.str (Str.ofString "rshift") 327), (.ref 115)⟩, ⟨PyData.keyHash P (Str.ofString "concat"), (.str (Str.ofString "concat") 336), (.ref 122)⟩, ⟨PyData.keyHash P (Str.ofString "countOf"), (.str (Str.ofString "countOf") 346), (.ref 129)⟩, ⟨PyData.keyHash P (Str.ofString "indexOf"), (.str (Str.ofString "indexOf") 356), (.ref 136)⟩, ⟨PyData.keyHash P (Str.ofString "length_hint"), (.str (Str.ofString "length_hint") 368), (.ref 144)⟩] 19), #[]⟩
noncomputable def h_12_12 : Params → Obj := fun P => ⟨.none, none, (.fields #[(.int 1 0), (.int 0 0), (.ref 20), (.int 5 0), (.int 0 0), (.ref 27), (.int 54 0), (.int 0 0), (.ref 93), (.int 56 0), (.int 0 0), (.ref 100), (.int 58 0), (.int 0 0), (.ref 107), (.int 60 0), (.int 0 0), (.ref 114), (.int 62 0), (.int 0 0), (.ref 121), (.int 67 0), (.int 0 0), (.ref 128), (.int 73 0), (.int 0 0), (.ref 135), (.int 79 0), (.int 0 0), (.ref 143)]), #[]⟩
noncomputable def h_15 : Params → Obj := fun P => ⟨(.type "tuple"), none, (.seq #[] 0), #[]⟩
noncomputable def h_16 : Params → Obj := fun P => ⟨.none, none, (.fields #[]), #[]⟩
noncomputable def h_17 : Params → Obj := fun P => ⟨(.type "tuple"), none, (.seq #[(.str (Str.ofString "k") 190)] 0), #[]⟩
noncomputable def h_18 : Params → Obj := fun P => ⟨(.type "tuple"), none, (.seq #[] 0), #[]⟩
noncomputable def h_19 : Params → Obj := fun P => ⟨.none, none, (.func ⟨(Str.ofString "_wall"), (Str.ofString "_wall"), fdA 0, .stmts (fdB 0), fdS 0, 0, [], .none, .none, .none, .none, none, .none, .none, 0⟩), #[]⟩
noncomputable def h_20 : Params → Obj := fun P => ⟨(.type "code"), none, (.fields #[(.str (Str.ofString "_wall") 187), (.str (Str.ofString "_wall") 188), (.str (Str.ofString "/claim/cut.py") 189), (.int 1 0), (.int 1 0), (.int 0 0), (.int 0 0), (.int 3 0), (.ref 15), (.bool true), (.int 181 0), (.ref 16), .none, (.ref 17), (.ref 18), (.ref 19), (.int 191 0), (.int 1 0), (.str (Str.ofString "/claim/cut.py") 192)]), #[]⟩
noncomputable def h_21 : Params → Obj := fun P => ⟨(.type "function"), none, (.func ⟨(Str.ofString "_wall"), (Str.ofString "_wall"), fdA 0, .stmts (fdB 0), fdS 0, 3, [], .none, .none, .none, (.str (Str.ofString "__main__") 164), none, (.ref 20), .none, 0⟩), #[]⟩
noncomputable def h_22 : Params → Obj := fun P => ⟨(.type "tuple"), none, (.seq #[] 0), #[]⟩
noncomputable def h_23 : Params → Obj := fun P => ⟨(.type "builtin_function_or_method"), none, (.fields #[(.builtin "type.__prepare__"), (.type "type")]), #[]⟩
noncomputable def h_24 : Params → Obj := fun P => ⟨(.type "dict"), none, (.dict #[⟨PyData.keyHash P (Str.ofString "__module__"), (.str (Str.ofString "__module__") 203), (.str (Str.ofString "cpy313.tabnanny") 194)⟩, ⟨PyData.keyHash P (Str.ofString "__qualname__"), (.str (Str.ofString "__qualname__") 205), (.str (Str.ofString "Whitespace") 204)⟩, ⟨PyData.keyHash P (Str.ofString "__firstlineno__"), (.str (Str.ofString "__firstlineno__") 207), (.int 5 206)⟩, ⟨PyData.keyHash P (Str.ofString "S"), (.str (Str.ofString "S") 211), (.str (Str.ofString " ") 209)⟩, ⟨PyData.keyHash P (Str.ofString "T"), (.str (Str.ofString "T") 212), (.str (Str.ofString "\t") 210)⟩, ⟨PyData.keyHash P (Str.ofString "__init__"), (.str (Str.ofString "__init__") 227), (.ref 38)⟩, ⟨PyData.keyHash P (Str.ofString "longest_run_of_spaces"), (.str (Str.ofString "longest_run_of_spaces") 236), (.ref 45)⟩, ⟨PyData.keyHash P (Str.ofString "indent_level"), (.str (Str.ofString "indent_level") 248), (.ref 52)⟩, ⟨PyData.keyHash P (Str.ofString "equal"), (.str (Str.ofString "equal") 256), (.ref 59)⟩, ⟨PyData.keyHash P (Str.ofString "not_equal_witness"), (.str (Str.ofString "not_equal_witness") 264), (.ref 66)⟩, ⟨PyData.keyHash P (Str.ofString "less"), (.str (Str.ofString "less") 272), (.ref 73)⟩, ⟨PyData.keyHash P (Str.ofString "not_less_witness"), (.str (Str.ofString "not_less_witness") 280), (.ref 80)⟩, ⟨PyData.keyHash P (Str.ofString "__static_attributes__"), (.str (Str.ofString "__static_attributes__") 286), (.ref 81)⟩] 13), #[]⟩
noncomputable def h_25 : Params → Obj := fun P => ⟨(.type "tuple"), none, (.seq #[] 0), #[]⟩
noncomputable def h_26 : Params → Obj := fun P => ⟨.none, none, (.fields #[(.int 8 0), (.int 4 0), (.ref 37), (.int 31 0), (.int 4 0), (.ref 44), (.int 35 0), (.int 4 0), (.ref 51), (.int 42 0), (.int 4 0), (.ref 58), (.int 45 0), (.int 4 0), (.ref 65), (.int 48 0), (.int 4 0), (.ref 72), (.int 51 0), (.int 4 0), (.ref 79)]), #[]⟩
noncomputable def h_27 : Params → Obj := fun P => ⟨(.type "code"), none, (.fields #[(.str (Str.ofString "Whitespace") 198), (.str (Str.ofString "Whitespace") 199), (.str (Str.ofString "/claim/cut.py") 200), (.int 5 0), (.int 0 0), (.int 0 0), (.int 0 0), (.int 0 0), (.ref 25), (.bool false), (.int 181 0), (.ref 26), .none, .none, .none, .none, (.int 201 0), (.int 5 0), (.str (Str.ofString "/claim/cut.py") 202)]), #[]⟩
noncomputable def h_28 : Params → Obj := fun P => ⟨(.type "frame"), none, .plain, #[some (.ref 27), some (.ref 3), some (.ref 24), none, some (.str (Str.ofString "cpy313.tabnanny") 194), none, some (.ref 0)]⟩
noncomputable def h_29 : Params → Obj := fun P => ⟨(.type "str_ascii_iterator"), none, (.fields #[.none, (.int 2 0)]), #[]⟩
noncomputable def h_30 : Params → Obj := fun P => ⟨(.type "tuple"), none, (.seq #[] 0), #[]⟩
noncomputable def h_31 : Params → Obj := fun P => ⟨(.type "StopIteration"), none, (.fields #[(.ref 30), .none, .none, .none, (.bool false), .none]), #[]⟩
noncomputable def h_32 : Params → Obj := fun P => ⟨(.type "tuple"), none, (.seq #[] 0), #[]⟩
noncomputable def h_33 : Params → Obj := fun P => ⟨.none, none, (.fields #[]), #[]⟩
noncomputable def h_34 : Params → Obj := fun P => ⟨(.type "tuple"), none, (.seq #[(.str (Str.ofString "self") 216), (.str (Str.ofString "ws") 217), (.str (Str.ofString "S") 218), (.str (Str.ofString "T") 219), (.str (Str.ofString "count") 220), (.str (Str.ofString "b") 221), (.str (Str.ofString "n") 222), (.str (Str.ofString "nt") 223), (.str (Str.ofString "ch") 224)] 0), #[]⟩
noncomputable def h_35 : Params → Obj := fun P => ⟨(.type "tuple"), none, (.seq #[] 0), #[]⟩
noncomputable def h_36 : Params → Obj := fun P => ⟨.none, none, (.func ⟨(Str.ofString "__init__"), (Str.ofString "Whitespace.__init__"), fnA (mth 1), .stmts (fnB (mth 1)), fnS (mth 1), 0, [], .none, .none, .none, .none, none, .none, .none, 0⟩), #[]⟩
noncomputable def h_37 : Params → Obj := fun P => ⟨(.type "code"), none, (.fields #[(.str (Str.ofString "__init__") 213), (.str (Str.ofString "Whitespace.__init__") 214), (.str (Str.ofString "/claim/cut.py") 215), (.int 8 0), (.int 2 0), (.int 0 0), (.int 0 0), (.int 3 0), (.ref 32), (.bool true), (.int 181 0), (.ref 33), .none, (.ref 34), (.ref 35), (.ref 36), (.int 225 0), (.int 8 0), (.str (Str.ofString "/claim/cut.py") 226)]), #[]⟩
noncomputable def h_38 : Params → Obj := fun P => ⟨(.type "function"), none, (.func ⟨(Str.ofString "__init__"), (Str.ofString "Whitespace.__init__"), fnA (mth 1), .stmts (fnB (mth 1)), fnS (mth 1), 3, [], .none, .none, .none, (.str (Str.ofString "cpy313.tabnanny") 194), none, (.ref 37), .none, 0⟩), #[]⟩
noncomputable def h_39 : Params → Obj := fun P => ⟨(.type "tuple"), none, (.seq #[] 0), #[]⟩
noncomputable def h_40 : Params → Obj := fun P => ⟨.none, none, (.fields #[]), #[]⟩
noncomputable def h_41 : Params → Obj := fun P => ⟨(.type "tuple"), none, (.seq #[(.str (Str.ofString "self") 231), (.str (Str.ofString "count") 232), (.str (Str.ofString "trailing") 233)] 0), #[]⟩
noncomputable def h_42 : Params → Obj := fun P => ⟨(.type "tuple"), none, (.seq #[] 0), #[]⟩
noncomputable def h_43 : Params → Obj := fun P => ⟨.none, none, (.func ⟨(Str.ofString "longest_run_of_spaces"), (Str.ofString "Whitespace.longest_run_of_spaces"), fnA (mth 2), .stmts (fnB (mth 2)), fnS (mth 2), 0, [], .none, .none, .none, .none, none, .none, .none, 0⟩), #[]⟩
noncomputable def h_44 : Params → Obj := fun P => ⟨(.type "code"), none, (.fields #[(.str (Str.ofString "longest_run_of_spaces") 228), (.str (Str.ofString "Whitespace.longest_run_of_spaces") 229), (.str (Str.ofString "/claim/cut.py") 230), (.int 31 0), (.int 1 0), (.int 0 0), (.int 0 0), (.int 3 0), (.ref 39), (.bool true), (.int 181 0), (.ref 40), .none, (.ref 41), (.ref 42), (.ref 43), (.int 234 0), (.int 31 0), (.str (Str.ofString "/claim/cut.py") 235)]), #[]⟩
noncomputable def h_45 : Params → Obj := fun P => ⟨(.type "function"), none, (.func ⟨(Str.ofString "longest_run_of_spaces"), (Str.ofString "Whitespace.longest_run_of_spaces"), fnA (mth 2), .stmts (fnB (mth 2)), fnS (mth 2), 3, [], .none, .none, .none, (.str (Str.ofString "cpy313.tabnanny") 194), none, (.ref 44), .none, 0⟩), #[]⟩
noncomputable def h_46 : Params → Obj := fun P => ⟨(.type "tuple"), none, (.seq #[] 0), #[]⟩
noncomputable def h_47 : Params → Obj := fun P => ⟨.none, none, (.fields #[]), #[]⟩
noncomputable def h_48 : Params → Obj := fun P => ⟨(.type "tuple"), none, (.seq #[(.str (Str.ofString "self") 240), (.str (Str.ofString "tabsize") 241), (.str (Str.ofString "count") 242), (.str (Str.ofString "trailing") 243), (.str (Str.ofString "il") 244), (.str (Str.ofString "i") 245)] 0), #[]⟩
noncomputable def h_49 : Params → Obj := fun P => ⟨(.type "tuple"), none, (.seq #[] 0), #[]⟩
noncomputable def h_50 : Params → Obj := fun P => ⟨.none, none, (.func ⟨(Str.ofString "indent_level"), (Str.ofString "Whitespace.indent_level"), fnA (mth 3), .stmts (fnB (mth 3)), fnS (mth 3), 0, [], .none, .none, .none, .none, none, .none, .none, 0⟩), #[]⟩
noncomputable def h_51 : Params → Obj := fun P => ⟨(.type "code"), none, (.fields #[(.str (Str.ofString "indent_level") 237), (.str (Str.ofString "Whitespace.indent_level") 238), (.str (Str.ofString "/claim/cut.py") 239), (.int 35 0), (.int 2 0), (.int 0 0), (.int 0 0), (.int 3 0), (.ref 46), (.bool true), (.int 181 0), (.ref 47), .none, (.ref 48), (.ref 49), (.ref 50), (.int 246 0), (.int 35 0), (.str (Str.ofString "/claim/cut.py") 247)]), #[]⟩
noncomputable def h_52 : Params → Obj := fun P => ⟨(.type "function"), none, (.func ⟨(Str.ofString "indent_level"), (Str.ofString "Whitespace.indent_level"), fnA (mth 3), .stmts (fnB (mth 3)), fnS (mth 3), 3, [], .none, .none, .none, (.str (Str.ofString "cpy313.tabnanny") 194), none, (.ref 51), .none, 0⟩), #[]⟩
noncomputable def h_53 : Params → Obj := fun P => ⟨(.type "tuple"), none, (.seq #[] 0), #[]⟩
noncomputable def h_54 : Params → Obj := fun P => ⟨.none, none, (.fields #[]), #[]⟩
noncomputable def h_55 : Params → Obj := fun P => ⟨(.type "tuple"), none, (.seq #[(.str (Str.ofString "self") 252), (.str (Str.ofString "other") 253)] 0), #[]⟩
noncomputable def h_56 : Params → Obj := fun P => ⟨(.type "tuple"), none, (.seq #[] 0), #[]⟩
noncomputable def h_57 : Params → Obj := fun P => ⟨.none, none, (.func ⟨(Str.ofString "equal"), (Str.ofString "Whitespace.equal"), fnA (mth 4), .stmts (fnB (mth 4)), fnS (mth 4), 0, [], .none, .none, .none, .none, none, .none, .none, 0⟩), #[]⟩
noncomputable def h_58 : Params → Obj := fun P => ⟨(.type "code"), none, (.fields #[(.str (Str.ofString "equal") 249), (.str (Str.ofString "Whitespace.equal") 250), (.str (Str.ofString "/claim/cut.py") 251), (.int 42 0), (.int 2 0), (.int 0 0), (.int 0 0), (.int 3 0), (.ref 53), (.bool true), (.int 181 0), (.ref 54), .none, (.ref 55), (.ref 56), (.ref 57), (.int 254 0), (.int 42 0), (.str (Str.ofString "/claim/cut.py") 255)]), #[]⟩
noncomputable def h_59 : Params → Obj := fun P => ⟨(.type "function"), none, (.func ⟨(Str.ofString "equal"), (Str.ofString "Whitespace.equal"), fnA (mth 4), .stmts (fnB (mth 4)), fnS (mth 4), 3, [], .none, .none, .none, (.str (Str.ofString "cpy313.tabnanny") 194), none, (.ref 58), .none, 0⟩), #[]⟩
noncomputable def h_60 : Params → Obj := fun P => ⟨(.type "tuple"), none, (.seq #[] 0), #[]⟩
noncomputable def h_61 : Params → Obj := fun P => ⟨.none, none, (.fields #[]), #[]⟩
noncomputable def h_62 : Params → Obj := fun P => ⟨(.type "tuple"), none, (.seq #[(.str (Str.ofString "self") 260), (.str (Str.ofString "other") 261)] 0), #[]⟩
noncomputable def h_63 : Params → Obj := fun P => ⟨(.type "tuple"), none, (.seq #[] 0), #[]⟩
noncomputable def h_64 : Params → Obj := fun P => ⟨.none, none, (.func ⟨(Str.ofString "not_equal_witness"), (Str.ofString "Whitespace.not_equal_witness"), fnA (mth 5), .stmts (fnB (mth 5)), fnS (mth 5), 0, [], .none, .none, .none, .none, none, .none, .none, 0⟩), #[]⟩
noncomputable def h_65 : Params → Obj := fun P => ⟨(.type "code"), none, (.fields #[(.str (Str.ofString "not_equal_witness") 257), (.str (Str.ofString "Whitespace.not_equal_witness") 258), (.str (Str.ofString "/claim/cut.py") 259), (.int 45 0), (.int 2 0), (.int 0 0), (.int 0 0), (.int 3 0), (.ref 60), (.bool true), (.int 181 0), (.ref 61), .none, (.ref 62), (.ref 63), (.ref 64), (.int 262 0), (.int 45 0), (.str (Str.ofString "/claim/cut.py") 263)]), #[]⟩
noncomputable def h_66 : Params → Obj := fun P => ⟨(.type "function"), none, (.func ⟨(Str.ofString "not_equal_witness"), (Str.ofString "Whitespace.not_equal_witness"), fnA (mth 5), .stmts (fnB (mth 5)), fnS (mth 5), 3, [], .none, .none, .none, (.str (Str.ofString "cpy313.tabnanny") 194), none, (.ref 65), .none, 0⟩), #[]⟩
noncomputable def h_67 : Params → Obj := fun P => ⟨(.type "tuple"), none, (.seq #[] 0), #[]⟩
noncomputable def h_68 : Params → Obj := fun P => ⟨.none, none, (.fields #[]), #[]⟩
noncomputable def h_69 : Params → Obj := fun P => ⟨(.type "tuple"), none, (.seq #[(.str (Str.ofString "self") 268), (.str (Str.ofString "other") 269)] 0), #[]⟩
noncomputable def h_70 : Params → Obj := fun P => ⟨(.type "tuple"), none, (.seq #[] 0), #[]⟩
noncomputable def h_71 : Params → Obj := fun P => ⟨.none, none, (.func ⟨(Str.ofString "less"), (Str.ofString "Whitespace.less"), fnA (mth 6), .stmts (fnB (mth 6)), fnS (mth 6), 0, [], .none, .none, .none, .none, none, .none, .none, 0⟩), #[]⟩
noncomputable def h_72 : Params → Obj := fun P => ⟨(.type "code"), none, (.fields #[(.str (Str.ofString "less") 265), (.str (Str.ofString "Whitespace.less") 266), (.str (Str.ofString "/claim/cut.py") 267), (.int 48 0), (.int 2 0), (.int 0 0), (.int 0 0), (.int 3 0), (.ref 67), (.bool true), (.int 181 0), (.ref 68), .none, (.ref 69), (.ref 70), (.ref 71), (.int 270 0), (.int 48 0), (.str (Str.ofString "/claim/cut.py") 271)]), #[]⟩
noncomputable def h_73 : Params → Obj := fun P => ⟨(.type "function"), none, (.func ⟨(Str.ofString "less"), (Str.ofString "Whitespace.less"), fnA (mth 6), .stmts (fnB (mth 6)), fnS (mth 6), 3, [], .none, .none, .none, (.str (Str.ofString "cpy313.tabnanny") 194), none, (.ref 72), .none, 0⟩), #[]⟩
noncomputable def h_74 : Params → Obj := fun P => ⟨(.type "tuple"), none, (.seq #[] 0), #[]⟩
noncomputable def h_75 : Params → Obj := fun P => ⟨.none, none, (.fields #[]), #[]⟩
noncomputable def h_76 : Params → Obj := fun P => ⟨(.type "tuple"), none, (.seq #[(.str (Str.ofString "self") 276), (.str (Str.ofString "other") 277)] 0), #[]⟩
noncomputable def h_77 : Params → Obj := fun P => ⟨(.type "tuple"), none, (.seq #[] 0), #[]⟩
noncomputable def h_78 : Params → Obj := fun P => ⟨.none, none, (.func ⟨(Str.ofString "not_less_witness"), (Str.ofString "Whitespace.not_less_witness"), fnA (mth 7), .stmts (fnB (mth 7)), fnS (mth 7), 0, [], .none, .none, .none, .none, none, .none, .none, 0⟩), #[]⟩
noncomputable def h_79 : Params → Obj := fun P => ⟨(.type "code"), none, (.fields #[(.str (Str.ofString "not_less_witness") 273), (.str (Str.ofString "Whitespace.not_less_witness") 274), (.str (Str.ofString "/claim/cut.py") 275), (.int 51 0), (.int 2 0), (.int 0 0), (.int 0 0), (.int 3 0), (.ref 74), (.bool true), (.int 181 0), (.ref 75), .none, (.ref 76), (.ref 77), (.ref 78), (.int 278 0), (.int 51 0), (.str (Str.ofString "/claim/cut.py") 279)]), #[]⟩
noncomputable def h_80 : Params → Obj := fun P => ⟨(.type "function"), none, (.func ⟨(Str.ofString "not_less_witness"), (Str.ofString "Whitespace.not_less_witness"), fnA (mth 7), .stmts (fnB (mth 7)), fnS (mth 7), 3, [], .none, .none, .none, (.str (Str.ofString "cpy313.tabnanny") 194), none, (.ref 79), .none, 0⟩), #[]⟩
noncomputable def h_81 : Params → Obj := fun P => ⟨(.type "tuple"), none, (.seq #[(.str (Str.ofString "is_simple") 281), (.str (Str.ofString "n") 282), (.str (Str.ofString "norm") 283), (.str (Str.ofString "nt") 284), (.str (Str.ofString "raw") 285)] 0), #[]⟩
noncomputable def h_82 : Params → Obj := fun P => ⟨(.type "dict"), none, (.dict #[⟨PyData.keyHash P (Str.ofString "__module__"), (.str (Str.ofString "__module__") 203), (.str (Str.ofString "cpy313.tabnanny") 194)⟩, ⟨PyData.keyHash P (Str.ofString "__firstlineno__"), (.str (Str.ofString "__firstlineno__") 207), (.int 5 206)⟩, ⟨PyData.keyHash P (Str.ofString "S"), (.str (Str.ofString "S") 211), (.str (Str.ofString " ") 209)⟩, ⟨PyData.keyHash P (Str.ofString "T"), (.str (Str.ofString "T") 212), (.str (Str.ofString "\t") 210)⟩, ⟨PyData.keyHash P (Str.ofString "__init__"), (.str (Str.ofString "__init__") 227), (.ref 38)⟩, ⟨PyData.keyHash P (Str.ofString "longest_run_of_spaces"), (.str (Str.ofString "longest_run_of_spaces") 236), (.ref 45)⟩, ⟨PyData.keyHash P (Str.ofString "indent_level"), (.str (Str.ofString "indent_level") 248), (.ref 52)⟩, ⟨PyData.keyHash P (Str.ofString "equal"), (.str (Str.ofString "equal") 256), (.ref 59)⟩, ⟨PyData.keyHash P (Str.ofString "not_equal_witness"), (.str (Str.ofString "not_equal_witness") 264), (.ref 66)⟩, ⟨PyData.keyHash P (Str.ofString "less"), (.str (Str.ofString "less") 272), (.ref 73)⟩, ⟨PyData.keyHash P (Str.ofString "not_less_witness"), (.str (Str.ofString "not_less_witness") 280), (.ref 80)⟩, ⟨PyData.keyHash P (Str.ofString "__static_attributes__"), (.str (Str.ofString "__static_attributes__") 286), (.ref 81)⟩, ⟨PyData.keyHash P (Str.ofString "__dict__"), (.str (Str.ofString "__dict__") 288), (.ref 84)⟩, ⟨PyData.keyHash P (Str.ofString "__weakref__"), (.str (Str.ofString "__weakref__") 290), (.ref 85)⟩, ⟨PyData.keyHash P (Str.ofString "__doc__"), (.str (Str.ofString "__doc__") 291), .none⟩] 4), #[]⟩
noncomputable def h_83 : Params → Obj := fun P => ⟨(.type "type"), none, (.cls ⟨(Str.ofString "Whitespace"), [(.type "object")], [(.ref 83), (.type "object")], 82, (Str.ofString "Whitespace"), true, [], [], false, none, false⟩), #[none, none, some (.str (Str.ofString "Whitespace") 196), some (.str (Str.ofString "Whitespace") 204), some (.builtin "object.__new__"), some (.bool true)]⟩
noncomputable def h_84 : Params → Obj := fun P => ⟨(.type "getset_descriptor"), none, (.fields #[(.str (Str.ofString "__dict__") 287), (.ref 83), (.builtin "function.__dict__"), (.builtin "function.__dict__#set")]), #[]⟩
noncomputable def h_85 : Params → Obj := fun P => ⟨(.type "getset_descriptor"), none, (.fields #[(.str (Str.ofString "__weakref__") 289), (.ref 83), (.builtin "ExceptionGroup.__weakref__"), .none]), #[]⟩
noncomputable def h_86 : Params → Obj := fun P => ⟨(.type "super"), none, (.fields #[(.ref 83), (.ref 83), (.ref 83)]), #[]⟩
noncomputable def h_87 : Params → Obj := fun P => ⟨(.type "builtin_function_or_method"), none, (.fields #[(.builtin "object.__init_subclass__"), (.ref 83)]), #[]⟩
noncomputable def h_88 : Params → Obj := fun P => ⟨(.type "tuple"), none, (.seq #[] 0), #[]⟩
noncomputable def h_89 : Params → Obj := fun P => ⟨.none, none, (.fields #[]), #[]⟩
noncomputable def h_90 : Params → Obj := fun P => ⟨(.type "tuple"), none, (.seq #[(.str (Str.ofString "a") 299), (.str (Str.ofString "b") 300)] 0), #[]⟩
noncomputable def h_91 : Params → Obj := fun P => ⟨(.type "tuple"), none, (.seq #[] 0), #[]⟩
noncomputable def h_92 : Params → Obj := fun P => ⟨.none, none, (.func ⟨(Str.ofString "and_"), (Str.ofString "and_"), fdA 4, .stmts (fdB 4), fdS 4, 0, [], .none, .none, .none, .none, none, .none, .none, 0⟩), #[]⟩
noncomputable def h_93 : Params → Obj := fun P => ⟨(.type "code"), none, (.fields #[(.str (Str.ofString "and_") 296), (.str (Str.ofString "and_") 297), (.str (Str.ofString "/claim/cut.py") 298), (.int 54 0), (.int 2 0), (.int 0 0), (.int 0 0), (.int 3 0), (.ref 88), (.bool true), (.int 181 0), (.ref 89), .none, (.ref 90), (.ref 91), (.ref 92), (.int 301 0), (.int 54 0), (.str (Str.ofString "/claim/cut.py") 302)]), #[]⟩
noncomputable def h_94 : Params → Obj := fun P => ⟨(.type "function"), none, (.func ⟨(Str.ofString "and_"), (Str.ofString "and_"), fdA 4, .stmts (fdB 4), fdS 4, 3, [], .none, .none, .none, (.str (Str.ofString "cpy313.operator") 294), none, (.ref 93), .none, 0⟩), #[]⟩
noncomputable def h_95 : Params → Obj := fun P => ⟨(.type "tuple"), none, (.seq #[] 0), #[]⟩
noncomputable def h_96 : Params → Obj := fun P => ⟨.none, none, (.fields #[]), #[]⟩
noncomputable def h_97 : Params → Obj := fun P => ⟨(.type "tuple"), none, (.seq #[(.str (Str.ofString "a") 307), (.str (Str.ofString "b") 308)] 0), #[]⟩
noncomputable def h_98 : Params → Obj := fun P => ⟨(.type "tuple"), none, (.seq #[] 0), #[]⟩
noncomputable def h_99 : Params → Obj := fun P => ⟨.none, none, (.func ⟨(Str.ofString "lshift"), (Str.ofString "lshift"), fdA 5, .stmts (fdB 5), fdS 5, 0, [], .none, .none, .none, .none, none, .none, .none, 0⟩), #[]⟩
noncomputable def h_100 : Params → Obj := fun P => ⟨(.type "code"), none, (.fields #[(.str (Str.ofString "lshift") 304), (.str (Str.ofString "lshift") 305), (.str (Str.ofString "/claim/cut.py") 306), (.int 56 0), (.int 2 0), (.int 0 0), (.int 0 0), (.int 3 0), (.ref 95), (.bool true), (.int 181 0), (.ref 96), .none, (.ref 97), (.ref 98), (.ref 99), (.int 309 0), (.int 56 0), (.str (Str.ofString "/claim/cut.py") 310)]), #[]⟩
noncomputable def h_101 : Params → Obj := fun P => ⟨(.type "function"), none, (.func ⟨(Str.ofString "lshift"), (Str.ofString "lshift"), fdA 5, .stmts (fdB 5), fdS 5, 3, [], .none, .none, .none, (.str (Str.ofString "cpy313.operator") 294), none, (.ref 100), .none, 0⟩), #[]⟩
noncomputable def h_102 : Params → Obj := fun P => ⟨(.type "tuple"), none, (.seq #[] 0), #[]⟩
noncomputable def h_103 : Params → Obj := fun P => ⟨.none, none, (.fields #[]), #[]⟩
noncomputable def h_104 : Params → Obj := fun P => ⟨(.type "tuple"), none, (.seq #[(.str (Str.ofString "a") 315), (.str (Str.ofString "b") 316)] 0), #[]⟩
noncomputable def h_105 : Params → Obj := fun P => ⟨(.type "tuple"), none, (.seq #[] 0), #[]⟩
noncomputable def h_106 : Params → Obj := fun P => ⟨.none, none, (.func ⟨(Str.ofString "or_"), (Str.ofString "or_"), fdA 6, .stmts (fdB 6), fdS 6, 0, [], .none, .none, .none, .none, none, .none, .none, 0⟩), #[]⟩
noncomputable def h_107 : Params → Obj := fun P => ⟨(.type "code"), none, (.fields #[(.str (Str.ofString "or_") 312), (.str (Str.ofString "or_") 313), (.str (Str.ofString "/claim/cut.py") 314), (.int 58 0), (.int 2 0), (.int 0 0), (.int 0 0), (.int 3 0), (.ref 102), (.bool true), (.int 181 0), (.ref 103), .none, (.ref 104), (.ref 105), (.ref 106), (.int 317 0), (.int 58 0), (.str (Str.ofString "/claim/cut.py") 318)]), #[]⟩
noncomputable def h_108 : Params → Obj := fun P => ⟨(.type "function"), none, (.func ⟨(Str.ofString "or_"), (Str.ofString "or_"), fdA 6, .stmts (fdB 6), fdS 6, 3, [], .none, .none, .none, (.str (Str.ofString "cpy313.operator") 294), none, (.ref 107), .none, 0⟩), #[]⟩
noncomputable def h_109 : Params → Obj := fun P => ⟨(.type "tuple"), none, (.seq #[] 0), #[]⟩
noncomputable def h_110 : Params → Obj := fun P => ⟨.none, none, (.fields #[]), #[]⟩
noncomputable def h_111 : Params → Obj := fun P => ⟨(.type "tuple"), none, (.seq #[(.str (Str.ofString "a") 323), (.str (Str.ofString "b") 324)] 0), #[]⟩
noncomputable def h_112 : Params → Obj := fun P => ⟨(.type "tuple"), none, (.seq #[] 0), #[]⟩
noncomputable def h_113 : Params → Obj := fun P => ⟨.none, none, (.func ⟨(Str.ofString "rshift"), (Str.ofString "rshift"), fdA 7, .stmts (fdB 7), fdS 7, 0, [], .none, .none, .none, .none, none, .none, .none, 0⟩), #[]⟩
noncomputable def h_114 : Params → Obj := fun P => ⟨(.type "code"), none, (.fields #[(.str (Str.ofString "rshift") 320), (.str (Str.ofString "rshift") 321), (.str (Str.ofString "/claim/cut.py") 322), (.int 60 0), (.int 2 0), (.int 0 0), (.int 0 0), (.int 3 0), (.ref 109), (.bool true), (.int 181 0), (.ref 110), .none, (.ref 111), (.ref 112), (.ref 113), (.int 325 0), (.int 60 0), (.str (Str.ofString "/claim/cut.py") 326)]), #[]⟩
noncomputable def h_115 : Params → Obj := fun P => ⟨(.type "function"), none, (.func ⟨(Str.ofString "rshift"), (Str.ofString "rshift"), fdA 7, .stmts (fdB 7), fdS 7, 3, [], .none, .none, .none, (.str (Str.ofString "cpy313.operator") 294), none, (.ref 114), .none, 0⟩), #[]⟩
noncomputable def h_116 : Params → Obj := fun P => ⟨(.type "tuple"), none, (.seq #[] 0), #[]⟩
noncomputable def h_117 : Params → Obj := fun P => ⟨.none, none, (.fields #[]), #[]⟩
noncomputable def h_118 : Params → Obj := fun P => ⟨(.type "tuple"), none, (.seq #[(.str (Str.ofString "a") 331), (.str (Str.ofString "b") 332), (.str (Str.ofString "msg") 333)] 0), #[]⟩
noncomputable def h_119 : Params → Obj := fun P => ⟨(.type "tuple"), none, (.seq #[] 0), #[]⟩
noncomputable def h_120 : Params → Obj := fun P => ⟨.none, none, (.func ⟨(Str.ofString "concat"), (Str.ofString "concat"), fdA 8, .stmts (fdB 8), fdS 8, 0, [], .none, .none, .none, .none, none, .none, .none, 0⟩), #[]⟩
noncomputable def h_121 : Params → Obj := fun P => ⟨(.type "code"), none, (.fields #[(.str (Str.ofString "concat") 328), (.str (Str.ofString "concat") 329), (.str (Str.ofString "/claim/cut.py") 330), (.int 62 0), (.int 2 0), (.int 0 0), (.int 0 0), (.int 3 0), (.ref 116), (.bool true), (.int 181 0), (.ref 117), .none, (.ref 118), (.ref 119), (.ref 120), (.int 334 0), (.int 62 0), (.str (Str.ofString "/claim/cut.py") 335)]), #[]⟩
noncomputable def h_122 : Params → Obj := fun P => ⟨(.type "function"), none, (.func ⟨(Str.ofString "concat"), (Str.ofString "concat"), fdA 8, .stmts (fdB 8), fdS 8, 3, [], .none, .none, .none, (.str (Str.ofString "cpy313.operator") 294), none, (.ref 121), .none, 0⟩), #[]⟩
noncomputable def h_123 : Params → Obj := fun P => ⟨(.type "tuple"), none, (.seq #[] 0), #[]⟩
noncomputable def h_124 : Params → Obj := fun P => ⟨.none, none, (.fields #[]), #[]⟩
noncomputable def h_125 : Params → Obj := fun P => ⟨(.type "tuple"), none, (.seq #[(.str (Str.ofString "a") 340), (.str (Str.ofString "b") 341), (.str (Str.ofString "count") 342), (.str (Str.ofString "i") 343)] 0), #[]⟩
noncomputable def h_126 : Params → Obj := fun P => ⟨(.type "tuple"), none, (.seq #[] 0), #[]⟩
noncomputable def h_127 : Params → Obj := fun P => ⟨.none, none, (.func ⟨(Str.ofString "countOf"), (Str.ofString "countOf"), fdA 9, .stmts (fdB 9), fdS 9, 0, [], .none, .none, .none, .none, none, .none, .none, 0⟩), #[]⟩
noncomputable def h_128 : Params → Obj := fun P => ⟨(.type "code"), none, (.fields #[(.str (Str.ofString "countOf") 337), (.str (Str.ofString "countOf") 338), (.str (Str.ofString "/claim/cut.py") 339), (.int 67 0), (.int 2 0), (.int 0 0), (.int 0 0), (.int 3 0), (.ref 123), (.bool true), (.int 181 0), (.ref 124), .none, (.ref 125), (.ref 126), (.ref 127), (.int 344 0), (.int 67 0), (.str (Str.ofString "/claim/cut.py") 345)]), #[]⟩
noncomputable def h_129 : Params → Obj := fun P => ⟨(.type "function"), none, (.func ⟨(Str.ofString "countOf"), (Str.ofString "countOf"), fdA 9, .stmts (fdB 9), fdS 9, 3, [], .none, .none, .none, (.str (Str.ofString "cpy313.operator") 294), none, (.ref 128), .none, 0⟩), #[]⟩
noncomputable def h_130 : Params → Obj := fun P => ⟨(.type "tuple"), none, (.seq #[] 0), #[]⟩
noncomputable def h_131 : Params → Obj := fun P => ⟨.none, none, (.fields #[]), #[]⟩
noncomputable def h_132 : Params → Obj := fun P => ⟨(.type "tuple"), none, (.seq #[(.str (Str.ofString "a") 350), (.str (Str.ofString "b") 351), (.str (Str.ofString "i") 352), (.str (Str.ofString "j") 353)] 0), #[]⟩
noncomputable def h_133 : Params → Obj := fun P => ⟨(.type "tuple"), none, (.seq #[] 0), #[]⟩
noncomputable def h_134 : Params → Obj := fun P => ⟨.none, none, (.func ⟨(Str.ofString "indexOf"), (Str.ofString "indexOf"), fdA 10, .stmts (fdB 10), fdS 10, 0, [], .none, .none, .none, .none, none, .none, .none, 0⟩), #[]⟩
noncomputable def h_135 : Params → Obj := fun P => ⟨(.type "code"), none, (.fields #[(.str (Str.ofString "indexOf") 347), (.str (Str.ofString "indexOf") 348), (.str (Str.ofString "/claim/cut.py") 349), (.int 73 0), (.int 2 0), (.int 0 0), (.int 0 0), (.int 3 0), (.ref 130), (.bool true), (.int 181 0), (.ref 131), .none, (.ref 132), (.ref 133), (.ref 134), (.int 354 0), (.int 73 0), (.str (Str.ofString "/claim/cut.py") 355)]), #[]⟩
noncomputable def h_136 : Params → Obj := fun P => ⟨(.type "function"), none, (.func ⟨(Str.ofString "indexOf"), (Str.ofString "indexOf"), fdA 10, .stmts (fdB 10), fdS 10, 3, [], .none, .none, .none, (.str (Str.ofString "cpy313.operator") 294), none, (.ref 135), .none, 0⟩), #[]⟩
noncomputable def h_137 : Params → Obj := fun P => ⟨(.type "tuple"), none, (.seq #[(.int 0 357)] 0), #[]⟩
noncomputable def h_138 : Params → Obj := fun P => ⟨(.type "tuple"), none, (.seq #[] 0), #[]⟩
noncomputable def h_139 : Params → Obj := fun P => ⟨.none, none, (.fields #[]), #[]⟩
noncomputable def h_140 : Params → Obj := fun P => ⟨(.type "tuple"), none, (.seq #[(.str (Str.ofString "obj") 361), (.str (Str.ofString "default") 362), (.str (Str.ofString "msg") 363), (.str (Str.ofString "hint") 364), (.str (Str.ofString "val") 365)] 0), #[]⟩
noncomputable def h_141 : Params → Obj := fun P => ⟨(.type "tuple"), none, (.seq #[] 0), #[]⟩
noncomputable def h_142 : Params → Obj := fun P => ⟨.none, none, (.func ⟨(Str.ofString "length_hint"), (Str.ofString "length_hint"), fdA 11, .stmts (fdB 11), fdS 11, 0, [], .none, .none, .none, .none, none, .none, .none, 0⟩), #[]⟩
noncomputable def h_143 : Params → Obj := fun P => ⟨(.type "code"), none, (.fields #[(.str (Str.ofString "length_hint") 358), (.str (Str.ofString "length_hint") 359), (.str (Str.ofString "/claim/cut.py") 360), (.int 79 0), (.int 2 0), (.int 0 0), (.int 0 0), (.int 3 0), (.ref 138), (.bool true), (.int 181 0), (.ref 139), .none, (.ref 140), (.ref 141), (.ref 142), (.int 366 0), (.int 79 0), (.str (Str.ofString "/claim/cut.py") 367)]), #[]⟩
noncomputable def h_144 : Params → Obj := fun P => ⟨(.type "function"), none, (.func ⟨(Str.ofString "length_hint"), (Str.ofString "length_hint"), fdA 11, .stmts (fdB 11), fdS 11, 3, [], (.ref 137), .none, .none, (.str (Str.ofString "cpy313.operator") 294), none, (.ref 143), .none, 0⟩), #[]⟩
noncomputable def tr_12 : Params → BT := fun P => (.node (PySem.W.boot_o_0 P) (.node (PySem.W.boot_o_1 P) (.node (h_3_12 P) (.node (PySem.W.boot_o_7 P) (.node (h_15 P) (.node (h_31 P) (.node (h_63 P) (.node (h_127 P) .nil .nil) .nil) (.node (h_95 P) .nil .nil)) (.node (h_47 P) (.node (h_79 P) (.node (h_143 P) .nil .nil) .nil) (.node (h_111 P) .nil .nil))) (.node (h_23 P) (.node (h_39 P) (.node (h_71 P) (.node (h_135 P) .nil .nil) .nil) (.node (h_103 P) .nil .nil)) (.node (h_55 P) (.node (h_87 P) .nil .nil) (.node (h_119 P) .nil .nil)))) (.node (h_11_S P) (.node (h_19 P) (.node (h_35 P) (.node (h_67 P) (.node (h_131 P) .nil .nil) .nil) (.node (h_99 P) .nil .nil)) (.node (h_51 P) (.node (h_83 P) .nil .nil) (.node (h_115 P) .nil .nil))) (.node (h_27 P) (.node (h_43 P) (.node (h_75 P) (.node (h_139 P) .nil .nil) .nil) (.node (h_107 P) .nil .nil)) (.node (h_59 P) (.node (h_91 P) .nil .nil) (.node (h_123 P) .nil .nil))))) (.node (PySem.W.boot_o_5 P) (.node (PySem.W.boot_o_9 P) (.node (h_17 P) (.node (h_33 P) (.node (h_65 P) (.node (h_129 P) .nil .nil) .nil) (.node (h_97 P) .nil .nil)) (.node (h_49 P) (.node (h_81 P) .nil .nil) (.node (h_113 P) .nil .nil))) (.node (h_25 P) (.node (h_41 P) (.node (h_73 P) (.node (h_137 P) .nil .nil) .nil) (.node (h_105 P) .nil .nil)) (.node (h_57 P) (.node (h_89 P) .nil .nil) (.node (h_121 P) .nil .nil)))) (.node (h_13_S P) (.node (h_21 P) (.node (h_37 P) (.node (h_69 P) (.node (h_133 P) .nil .nil) .nil) (.node (h_101 P) .nil .nil)) (.node (h_53 P) (.node (h_85 P) .nil .nil) (.node (h_117 P) .nil .nil))) (.node (h_29 P) (.node (h_45 P) (.node (h_77 P) (.node (h_141 P) .nil .nil) .nil) (.node (h_109 P) .nil .nil)) (.node (h_61 P) (.node (h_93 P) .nil .nil) (.node (h_125 P) .nil .nil)))))) (.node (PySem.W.boot_o_2 P) (.node (PySem.W.boot_o_4 P) (.node (PySem.W.boot_o_8 P) (.node (h_16 P) (.node (h_32 P) (.node (h_64 P) (.node (h_128 P) .nil .nil) .nil) (.node (h_96 P) .nil .nil)) (.node (h_48 P) (.node (h_80 P) (.node (h_144 P) .nil .nil) .nil) (.node (h_112 P) .nil .nil))) (.node (h_24 P) (.node (h_40 P) (.node (h_72 P) (.node (h_136 P) .nil .nil) .nil) (.node (h_104 P) .nil .nil)) (.node (h_56 P) (.node (h_88 P) .nil .nil) (.node (h_120 P) .nil .nil)))) (.node (h_12_12 P) (.node (h_20 P) (.node (h_36 P) (.node (h_68 P) (.node (h_132 P) .nil .nil) .nil) (.node (h_100 P) .nil .nil)) (.node (h_52 P) (.node (h_84 P) .nil .nil) (.node (h_116 P) .nil .nil))) (.node (h_28 P) (.node (h_44 P) (.node (h_76 P) (.node (h_140 P) .nil .nil) .nil) (.node (h_108 P) .nil .nil)) (.node (h_60 P) (.node (h_92 P) .nil .nil) (.node (h_124 P) .nil .nil))))) (.node (PySem.W.boot_o_6 P) (.node (PySem.W.boot_o_10 P) (.node (h_18 P) (.node (h_34 P) (.node (h_66 P) (.node (h_130 P) .nil .nil) .nil) (.node (h_98 P) .nil .nil)) (.node (h_50 P) (.node (h_82 P) .nil .nil) (.node (h_114 P) .nil .nil))) (.node (h_26 P) (.node (h_42 P) (.node (h_74 P) (.node (h_138 P) .nil .nil) .nil) (.node (h_106 P) .nil .nil)) (.node (h_58 P) (.node (h_90 P) .nil .nil) (.node (h_122 P) .nil .nil)))) (.node (h_14_S P) (.node (h_22 P) (.node (h_38 P) (.node (h_70 P) (.node (h_134 P) .nil .nil) .nil) (.node (h_102 P) .nil .nil)) (.node (h_54 P) (.node (h_86 P) .nil .nil) (.node (h_118 P) .nil .nil))) (.node (h_30 P) (.node (h_46 P) (.node (h_78 P) (.node (h_142 P) .nil .nil) .nil) (.node (h_110 P) .nil .nil)) (.node (h_62 P) (.node (h_94 P) .nil .nil) (.node (h_126 P) .nil .nil)))))))
noncomputable def h_3_13 : Params → Obj := fun P => ⟨(.type "dict"), none, (.dict #[⟨PyData.keyHash P (Str.ofString "__name__"), (.str (Str.ofString "__name__") 165), (.str (Str.ofString "cpy313.stringprep") 369)⟩, ⟨PyData.keyHash P (Str.ofString "__doc__"), (.str (Str.ofString "__doc__") 166), .none⟩, ⟨PyData.keyHash P (Str.ofString "__package__"), (.str (Str.ofString "__package__") 167), .none⟩, ⟨PyData.keyHash P (Str.ofString "__loader__"), (.str (Str.ofString "__loader__") 168), (.builtin "__main__.__loader__#opaque")⟩, ⟨PyData.keyHash P (Str.ofString "__spec__"), (.str (Str.ofString "__spec__") 169), .none⟩, ⟨PyData.keyHash P (Str.ofString "__annotations__"), (.str (Str.ofString "__annotations__") 170), (.ref 6)⟩, ⟨PyData.keyHash P (Str.ofString "__builtins__"), (.str (Str.ofString "__builtins__") 171), (.ref 4)⟩, ⟨PyData.keyHash P (Str.ofString "__file__"), (.str (Str.ofString "__file__") 173), (.str (Str.ofString "/claim/cut.py") 172)⟩, ⟨PyData.keyHash P (Str.ofString "__cached__"), (.str (Str.ofString "__cached__") 174), .none⟩, ⟨PyData.keyHash P (Str.ofString "_wall"), (.str (Str.ofString "_wall") 193), (.ref 21)⟩, ⟨PyData.keyHash P (Str.ofString "Whitespace"), (.str (Str.ofString "Whitespace") 293), (.ref 83)⟩, ⟨PyData.keyHash P (Str.ofString "and_"), (.str (Str.ofString "and_") 303), (.ref 94)⟩, ⟨PyData.keyHash P (Str.ofString "lshift"), (.str (Str.ofString "lshift") 311), (.ref 101)⟩, ⟨PyData.keyHash P (Str.ofString "or_"), (.str (Str.ofString "or_") 319), (.ref 108)⟩, ⟨PyData.keyHash P (Str.ofString "rshift"), (.str (Str.ofString "rshift") 327), (.ref 115)⟩, ⟨PyData.keyHash P (Str.ofString "concat"), (.str (Str.ofString "concat") 336), (.ref 122)⟩, ⟨PyData.keyHash P (Str.ofString "countOf"), (.str (Str.ofString "countOf") 346), (.ref 129)⟩, ⟨PyData.keyHash P (Str.ofString "indexOf"), (.str (Str.ofString "indexOf") 356), (.ref 136)⟩, ⟨PyData.keyHash P (Str.ofString "length_hint"), (.str (Str.ofString "length_hint") 368), (.ref 144)⟩, ⟨PyData.keyHash P (Str.ofString "b1_set"), (.str (Str.ofString "b1_set") 430), (.ref 152)⟩] 20), #[]⟩
noncomputable def h_145 : Params → Obj := fun P => ⟨(.type "list"), none, (.seq #[(.int 173 371), (.int 847 372), (.int 6150 373), (.int 6155 374), (.int 6156 375), (.int 6157 376), (.int 8203 377), (.int 8204 378), (.int 8205 379), (.int 8288 380), (.int 65279 381)] 0), #[]⟩
noncomputable def h_146 : Params → Obj := fun P => ⟨(.type "range"), none, (.fields #[(.int 65024 382), (.int 65040 383), (.int 1 384)]), #[]⟩
noncomputable def h_147 : Params → Obj := fun P => ⟨(.type "list"), none, (.seq #[(.int 65024 387), (.int 65025 388), (.int 65026 389), (.int 65027 390), (.int 65028 391), (.int 65029 392), (.int 65030 393), (.int 65031 394), (.int 65032 395), (.int 65033 396), (.int 65034 397), (.int 65035 398), (.int 65036 399), (.int 65037 400), (.int 65038 401), (.int 65039 402)] 18), #[]⟩
noncomputable def h_148 : Params → Obj := fun P => ⟨(.type "range_iterator"), none, (.fields #[(.int 65040 0), (.int 0 0), (.int 1 0)]), #[]⟩
noncomputable def h_149 : Params → Obj := fun P => ⟨(.type "tuple"), none, (.seq #[] 0), #[]⟩
noncomputable def h_150 : Params → Obj := fun P => ⟨(.type "StopIteration"), none, (.fields #[(.ref 149), .none, .none, .none, (.bool false), .none]), #[]⟩
noncomputable def h_151 : Params → Obj := fun P => ⟨(.type "list"), none, (.seq #[(.int 173 371), (.int 847 372), (.int 6150 373), (.int 6155 374), (.int 6156 375), (.int 6157 376), (.int 8203 377), (.int 8204 378), (.int 8205 379), (.int 8288 380), (.int 65279 381), (.int 65024 387), (.int 65025 388), (.int 65026 389), (.int 65027 390), (.int 65028 391), (.int 65029 392), (.int 65030 393), (.int 65031 394), (.int 65032 395), (.int 65033 396), (.int 65034 397), (.int 65035 398), (.int 65036 399), (.int 65037 400), (.int 65038 401), (.int 65039 402)] 0), #[]⟩
noncomputable def h_152 : Params → Obj := fun P => ⟨(.type "set"), none, (.set #[(65024, (.int 65024 387)), (65025, (.int 65025 388)), (65026, (.int 65026 389)), (65027, (.int 65027 390)), (65028, (.int 65028 391)), (65029, (.int 65029 392)), (6150, (.int 6150 373)), (65030, (.int 65030 393)), (65031, (.int 65031 394)), (65032, (.int 65032 395)), (65033, (.int 65033 396)), (6155, (.int 6155 374)), (6156, (.int 6156 375)), (6157, (.int 6157 376)), (8203, (.int 8203 377)), (8204, (.int 8204 378)), (8205, (.int 8205 379)), (65034, (.int 65034 397)), (65035, (.int 65035 398)), (65036, (.int 65036 399)), (65037, (.int 65037 400)), (65038, (.int 65038 401)), (65039, (.int 65039 402)), (173, (.int 173 371)), (847, (.int 847 372)), (8288, (.int 8288 380)), (65279, (.int 65279 381))] 29 ⟨127, #[0, 1, 2, 3, 4, 5, 6, 7, 8, 9, 10, 11, 12, 13, 14, 15, 16, 17, 18, 19, 20, 21, 22, 45, 79, 96, 127], #[], 0, !P.followText "set-order", 2, true⟩), #[]⟩
noncomputable def h_153 : Params → Obj := fun P => ⟨(.type "list_iterator"), none, (.fields #[.none, (.int 27 0)]), #[]⟩
noncomputable def h_154 : Params → Obj := fun P => ⟨(.type "tuple"), none, (.seq #[] 0), #[]⟩
noncomputable def h_155 : Params → Obj := fun P => ⟨(.type "StopIteration"), none, (.fields #[(.ref 154), .none, .none, .none, (.bool false), .none]), #[]⟩
noncomputable def tr_13 : Params → BT := fun P => (.node (PySem.W.boot_o_0 P) (.node (PySem.W.boot_o_1 P) (.node (h_3_13 P) (.node (PySem.W.boot_o_7 P) (.node (h_15 P) (.node (h_31 P) (.node (h_63 P) (.node (h_127 P) .nil .nil) .nil) (.node (h_95 P) .nil .nil)) (.node (h_47 P) (.node (h_79 P) (.node (h_143 P) .nil .nil) .nil) (.node (h_111 P) .nil .nil))) (.node (h_23 P) (.node (h_39 P) (.node (h_71 P) (.node (h_135 P) .nil .nil) .nil) (.node (h_103 P) .nil .nil)) (.node (h_55 P) (.node (h_87 P) (.node (h_151 P) .nil .nil) .nil) (.node (h_119 P) .nil .nil)))) (.node (h_11_S P) (.node (h_19 P) (.node (h_35 P) (.node (h_67 P) (.node (h_131 P) .nil .nil) .nil) (.node (h_99 P) .nil .nil)) (.node (h_51 P) (.node (h_83 P) (.node (h_147 P) .nil .nil) .nil) (.node (h_115 P) .nil .nil))) (.node (h_27 P) (.node (h_43 P) (.node (h_75 P) (.node (h_139 P) .nil .nil) .nil) (.node (h_107 P) .nil .nil)) (.node (h_59 P) (.node (h_91 P) (.node (h_155 P) .nil .nil) .nil) (.node (h_123 P) .nil .nil))))) (.node (PySem.W.boot_o_5 P) (.node (PySem.W.boot_o_9 P) (.node (h_17 P) (.node (h_33 P) (.node (h_65 P) (.node (h_129 P) .nil .nil) .nil) (.node (h_97 P) .nil .nil)) (.node (h_49 P) (.node (h_81 P) (.node (h_145 P) .nil .nil) .nil) (.node (h_113 P) .nil .nil))) (.node (h_25 P) (.node (h_41 P) (.node (h_73 P) (.node (h_137 P) .nil .nil) .nil) (.node (h_105 P) .nil .nil)) (.node (h_57 P) (.node (h_89 P) (.node (h_153 P) .nil .nil) .nil) (.node (h_121 P) .nil .nil)))) (.node (h_13_S P) (.node (h_21 P) (.node (h_37 P) (.node (h_69 P) (.node (h_133 P) .nil .nil) .nil) (.node (h_101 P) .nil .nil)) (.node (h_53 P) (.node (h_85 P) (.node (h_149 P) .nil .nil) .nil) (.node (h_117 P) .nil .nil))) (.node (h_29 P) (.node (h_45 P) (.node (h_77 P) (.node (h_141 P) .nil .nil) .nil) (.node (h_109 P) .nil .nil)) (.node (h_61 P) (.node (h_93 P) .nil .nil) (.node (h_125 P) .nil .nil)))))) (.node (PySem.W.boot_o_2 P) (.node (PySem.W.boot_o_4 P) (.node (PySem.W.boot_o_8 P) (.node (h_16 P) (.node (h_32 P) (.node (h_64 P) (.node (h_128 P) .nil .nil) .nil) (.node (h_96 P) .nil .nil)) (.node (h_48 P) (.node (h_80 P) (.node (h_144 P) .nil .nil) .nil) (.node (h_112 P) .nil .nil))) (.node (h_24 P) (.node (h_40 P) (.node (h_72 P) (.node (h_136 P) .nil .nil) .nil) (.node (h_104 P) .nil .nil)) (.node (h_56 P) (.node (h_88 P) (.node (h_152 P) .nil .nil) .nil) (.node (h_120 P) .nil .nil)))) (.node (h_12_12 P) (.node (h_20 P) (.node (h_36 P) (.node (h_68 P) (.node (h_132 P) .nil .nil) .nil) (.node (h_100 P) .nil .nil)) (.node (h_52 P) (.node (h_84 P) (.node (h_148 P) .nil .nil) .nil) (.node (h_116 P) .nil .nil))) (.node (h_28 P) (.node (h_44 P) (.node (h_76 P) (.node (h_140 P) .nil .nil) .nil) (.node (h_108 P) .nil .nil)) (.node (h_60 P) (.node (h_92 P) .nil .nil) (.node (h_124 P) .nil .nil))))) (.node (PySem.W.boot_o_6 P) (.node (PySem.W.boot_o_10 P) (.node (h_18 P) (.node (h_34 P) (.node (h_66 P) (.node (h_130 P) .nil .nil) .nil) (.node (h_98 P) .nil .nil)) (.node (h_50 P) (.node (h_82 P) (.node (h_146 P) .nil .nil) .nil) (.node (h_114 P) .nil .nil))) (.node (h_26 P) (.node (h_42 P) (.node (h_74 P) (.node (h_138 P) .nil .nil) .nil) (.node (h_106 P) .nil .nil)) (.node (h_58 P) (.node (h_90 P) (.node (h_154 P) .nil .nil) .nil) (.node (h_122 P) .nil .nil)))) (.node (h_14_S P) (.node (h_22 P) (.node (h_38 P) (.node (h_70 P) (.node (h_134 P) .nil .nil) .nil) (.node (h_102 P) .nil .nil)) (.node (h_54 P) (.node (h_86 P) (.node (h_150 P) .nil .nil) .nil) (.node (h_118 P) .nil .nil))) (.node (h_30 P) (.node (h_46 P) (.node (h_78 P) (.node (h_142 P) .nil .nil) .nil) (.node (h_110 P) .nil .nil)) (.node (h_62 P) (.node (h_94 P) .nil .nil) (.node (h_126 P) .nil .nil)))))))
noncomputable def h_3_14 : Params → Obj := fun P => ⟨(.type "dict"), none, (.dict #[⟨PyData.keyHash P (Str.ofString "__name__"), (.str (Str.ofString "__name__") 165), (.str (Str.ofString "cpy313.stringprep") 369)⟩, ⟨PyData.keyHash P (Str.ofString "__doc__"), (.str (Str.ofString "__doc__") 166), .none⟩, ⟨PyData.keyHash P (Str.ofString "__package__"), (.str (Str.ofString "__package__") 167), .none⟩, ⟨PyData.keyHash P (Str.ofString "__loader__"), (.str (Str.ofString "__loader__") 168), (.builtin "__main__.__loader__#opaque")⟩, ⟨PyData.keyHash P (Str.ofString "__spec__"), (.str (Str.ofString "__spec__") 169), .none⟩, ⟨PyData.keyHash P (Str.ofString "__annotations__"), (.str (Str.ofString "__annotations__") 170), (.ref 6)⟩, ⟨PyData.keyHash P (Str.ofString "__builtins__"), (.str (Str.ofString "__builtins__") 171), (.ref 4)⟩, ⟨PyData.keyHash P (Str.ofString "__file__"), (.str (Str.ofString "__file__") 173), (.str (Str.ofString "/claim/cut.py") 172)⟩, ⟨PyData.keyHash P (Str.ofString "__cached__"), (.str (Str.ofString "__cached__") 174), .none⟩, ⟨PyData.keyHash P (Str.ofString "_wall"), (.str (Str.ofString "_wall") 193), (.ref 21)⟩, ⟨PyData.keyHash P (Str.ofString "Whitespace"), (.str (Str.ofString "Whitespace") 293), (.ref 83)⟩, ⟨PyData.keyHash P (Str.ofString "and_"), (.str (Str.ofString "and_") 303), (.ref 94)⟩, ⟨PyData.keyHash P (Str.ofString "lshift"), (.str (Str.ofString "lshift") 311), (.ref 101)⟩, ⟨PyData.keyHash P (Str.ofString "or_"), (.str (Str.ofString "or_") 319), (.ref 108)⟩, ⟨PyData.keyHash P (Str.ofString "rshift"), (.str (Str.ofString "rshift") 327), (.ref 115)⟩, ⟨PyData.keyHash P (Str.ofString "concat"), (.str (Str.ofString "concat") 336), (.ref 122)⟩, ⟨PyData.keyHash P (Str.ofString "countOf"), (.str (Str.ofString "countOf") 346), (.ref 129)⟩, ⟨PyData.keyHash P (Str.ofString "indexOf"), (.str (Str.ofString "indexOf") 356), (.ref 136)⟩, ⟨PyData.keyHash P (Str.ofString "length_hint"), (.str (Str.ofString "length_hint") 368), (.ref 144)⟩, ⟨PyData.keyHash P (Str.ofString "b1_set"), (.str (Str.ofString "b1_set") 430), (.ref 152)⟩, ⟨PyData.keyHash P (Str.ofString "in_table_b1"), (.str (Str.ofString "in_table_b1") 437), (.ref 162)⟩] 21), #[]⟩
noncomputable def h_12_14 : Params → Obj := fun P => ⟨.none, none, (.fields #[(.int 1 0), (.int 0 0), (.ref 20), (.int 5 0), (.int 0 0), (.ref 27), (.int 54 0), (.int 0 0), (.ref 93), (.int 56 0), (.int 0 0), (.ref 100), (.int 58 0), (.int 0 0), (.ref 107), (.int 60 0), (.int 0 0), (.ref 114), (.int 62 0), (.int 0 0), (.ref 121), (.int 67 0), (.int 0 0), (.ref 128), (.int 73 0), (.int 0 0), (.ref 135), (.int 79 0), (.int 0 0), (.ref 143), (.int 106 0), (.int 0 0), (.ref 161)]), #[]⟩
noncomputable def h_156 : Params → Obj := fun P => ⟨(.type "tuple"), none, (.seq #[] 0), #[]⟩
noncomputable def h_157 : Params → Obj := fun P => ⟨.none, none, (.fields #[]), #[]⟩
noncomputable def h_158 : Params → Obj := fun P => ⟨(.type "tuple"), none, (.seq #[(.str (Str.ofString "code") 434)] 0), #[]⟩
noncomputable def h_159 : Params → Obj := fun P => ⟨(.type "tuple"), none, (.seq #[] 0), #[]⟩
noncomputable def h_160 : Params → Obj := fun P => ⟨.none, none, (.func ⟨(Str.ofString "in_table_b1"), (Str.ofString "in_table_b1"), fdA 14, .stmts (fdB 14), fdS 14, 0, [], .none, .none, .none, .none, none, .none, .none, 0⟩), #[]⟩
noncomputable def h_161 : Params → Obj := fun P => ⟨(.type "code"), none, (.fields #[(.str (Str.ofString "in_table_b1") 431), (.str (Str.ofString "in_table_b1") 432), (.str (Str.ofString "/claim/cut.py") 433), (.int 106 0), (.int 1 0), (.int 0 0), (.int 0 0), (.int 3 0), (.ref 156), (.bool true), (.int 181 0), (.ref 157), .none, (.ref 158), (.ref 159), (.ref 160), (.int 435 0), (.int 106 0), (.str (Str.ofString "/claim/cut.py") 436)]), #[]⟩
noncomputable def h_162 : Params → Obj := fun P => ⟨(.type "function"), none, (.func ⟨(Str.ofString "in_table_b1"), (Str.ofString "in_table_b1"), fdA 14, .stmts (fdB 14), fdS 14, 3, [], .none, .none, .none, (.str (Str.ofString "cpy313.stringprep") 369), none, (.ref 161), .none, 0⟩), #[]⟩
noncomputable def tr_14 : Params → BT := fun P => (.node (PySem.W.boot_o_0 P) (.node (PySem.W.boot_o_1 P) (.node (h_3_14 P) (.node (PySem.W.boot_o_7 P) (.node (h_15 P) (.node (h_31 P) (.node (h_63 P) (.node (h_127 P) .nil .nil) .nil) (.node (h_95 P) (.node (h_159 P) .nil .nil) .nil)) (.node (h_47 P) (.node (h_79 P) (.node (h_143 P) .nil .nil) .nil) (.node (h_111 P) .nil .nil))) (.node (h_23 P) (.node (h_39 P) (.node (h_71 P) (.node (h_135 P) .nil .nil) .nil) (.node (h_103 P) .nil .nil)) (.node (h_55 P) (.node (h_87 P) (.node (h_151 P) .nil .nil) .nil) (.node (h_119 P) .nil .nil)))) (.node (h_11_S P) (.node (h_19 P) (.node (h_35 P) (.node (h_67 P) (.node (h_131 P) .nil .nil) .nil) (.node (h_99 P) .nil .nil)) (.node (h_51 P) (.node (h_83 P) (.node (h_147 P) .nil .nil) .nil) (.node (h_115 P) .nil .nil))) (.node (h_27 P) (.node (h_43 P) (.node (h_75 P) (.node (h_139 P) .nil .nil) .nil) (.node (h_107 P) .nil .nil)) (.node (h_59 P) (.node (h_91 P) (.node (h_155 P) .nil .nil) .nil) (.node (h_123 P) .nil .nil))))) (.node (PySem.W.boot_o_5 P) (.node (PySem.W.boot_o_9 P) (.node (h_17 P) (.node (h_33 P) (.node (h_65 P) (.node (h_129 P) .nil .nil) .nil) (.node (h_97 P) (.node (h_161 P) .nil .nil) .nil)) (.node (h_49 P) (.node (h_81 P) (.node (h_145 P) .nil .nil) .nil) (.node (h_113 P) .nil .nil))) (.node (h_25 P) (.node (h_41 P) (.node (h_73 P) (.node (h_137 P) .nil .nil) .nil) (.node (h_105 P) .nil .nil)) (.node (h_57 P) (.node (h_89 P) (.node (h_153 P) .nil .nil) .nil) (.node (h_121 P) .nil .nil)))) (.node (h_13_S P) (.node (h_21 P) (.node (h_37 P) (.node (h_69 P) (.node (h_133 P) .nil .nil) .nil) (.node (h_101 P) .nil .nil)) (.node (h_53 P) (.node (h_85 P) (.node (h_149 P) .nil .nil) .nil) (.node (h_117 P) .nil .nil))) (.node (h_29 P) (.node (h_45 P) (.node (h_77 P) (.node (h_141 P) .nil .nil) .nil) (.node (h_109 P) .nil .nil)) (.node (h_61 P) (.node (h_93 P) (.node (h_157 P) .nil .nil) .nil) (.node (h_125 P) .nil .nil)))))) (.node (PySem.W.boot_o_2 P) (.node (PySem.W.boot_o_4 P) (.node (PySem.W.boot_o_8 P) (.node (h_16 P) (.node (h_32 P) (.node (h_64 P) (.node (h_128 P) .nil .nil) .nil) (.node (h_96 P) (.node (h_160 P) .nil .nil) .nil)) (.node (h_48 P) (.node (h_80 P) (.node (h_144 P) .nil .nil) .nil) (.node (h_112 P) .nil .nil))) (.node (h_24 P) (.node (h_40 P) (.node (h_72 P) (.node (h_136 P) .nil .nil) .nil) (.node (h_104 P) .nil .nil)) (.node (h_56 P) (.node (h_88 P) (.node (h_152 P) .nil .nil) .nil) (.node (h_120 P) .nil .nil)))) (.node (h_12_14 P) (.node (h_20 P) (.node (h_36 P) (.node (h_68 P) (.node (h_132 P) .nil .nil) .nil) (.node (h_100 P) .nil .nil)) (.node (h_52 P) (.node (h_84 P) (.node (h_148 P) .nil .nil) .nil) (.node (h_116 P) .nil .nil))) (.node (h_28 P) (.node (h_44 P) (.node (h_76 P) (.node (h_140 P) .nil .nil) .nil) (.node (h_108 P) .nil .nil)) (.node (h_60 P) (.node (h_92 P) (.node (h_156 P) .nil .nil) .nil) (.node (h_124 P) .nil .nil))))) (.node (PySem.W.boot_o_6 P) (.node (PySem.W.boot_o_10 P) (.node (h_18 P) (.node (h_34 P) (.node (h_66 P) (.node (h_130 P) .nil .nil) .nil) (.node (h_98 P) (.node (h_162 P) .nil .nil) .nil)) (.node (h_50 P) (.node (h_82 P) (.node (h_146 P) .nil .nil) .nil) (.node (h_114 P) .nil .nil))) (.node (h_26 P) (.node (h_42 P) (.node (h_74 P) (.node (h_138 P) .nil .nil) .nil) (.node (h_106 P) .nil .nil)) (.node (h_58 P) (.node (h_90 P) (.node (h_154 P) .nil .nil) .nil) (.node (h_122 P) .nil .nil)))) (.node (h_14_S P) (.node (h_22 P) (.node (h_38 P) (.node (h_70 P) (.node (h_134 P) .nil .nil) .nil) (.node (h_102 P) .nil .nil)) (.node (h_54 P) (.node (h_86 P) (.node (h_150 P) .nil .nil) .nil) (.node (h_118 P) .nil .nil))) (.node (h_30 P) (.node (h_46 P) (.node (h_78 P) (.node (h_142 P) .nil .nil) .nil) (.node (h_110 P) .nil .nil)) (.node (h_62 P) (.node (h_94 P) (.node (h_158 P) .nil .nil) .nil) (.node (h_126 P) .nil .nil)))))))
noncomputable def h_163 : Params → Obj := fun _ => dobj b3E.toArray 650
noncomputable def h_164 : Params → Obj := fun _ => b3Sub.getD 0 default
noncomputable def h_165 : Params → Obj := fun _ => b3Sub.getD 1 default
noncomputable def h_166 : Params → Obj := fun _ => b3Sub.getD 2 default
noncomputable def h_167 : Params → Obj := fun _ => b3Sub.getD 3 default
noncomputable def h_168 : Params → Obj := fun _ => b3Sub.getD 4 default
noncomputable def h_169 : Params → Obj := fun _ => b3Sub.getD 5 default
noncomputable def h_170 : Params → Obj := fun _ => b3Sub.getD 6 default
noncomputable def h_171 : Params → Obj := fun _ => b3Sub.getD 7 default
noncomputable def h_172 : Params → Obj := fun _ => b3Sub.getD 8 default
noncomputable def h_173 : Params → Obj := fun _ => b3Sub.getD 9 default
noncomputable def h_174 : Params → Obj := fun _ => b3Sub.getD 10 default
noncomputable def h_175 : Params → Obj := fun _ => b3Sub.getD 11 default
noncomputable def h_176 : Params → Obj := fun _ => b3Sub.getD 12 default
noncomputable def h_177 : Params → Obj := fun _ => b3Sub.getD 13 default
noncomputable def h_178 : Params → Obj := fun _ => b3Sub.getD 14 default
noncomputable def h_179 : Params → Obj := fun _ => b3Sub.getD 15 default
noncomputable def h_180 : Params → Obj := fun _ => b3Sub.getD 16 default
noncomputable def h_181 : Params → Obj := fun _ => b3Sub.getD 17 default
noncomputable def h_182 : Params → Obj := fun _ => b3Sub.getD 18 default
noncomputable def h_183 : Params → Obj := fun _ => b3Sub.getD 19 default
noncomputable def h_184 : Params → Obj := fun _ => b3Sub.getD 20 default
noncomputable def h_185 : Params → Obj := fun _ => b3Sub.getD 21 default
noncomputable def h_186 : Params → Obj := fun _ => b3Sub.getD 22 default
noncomputable def h_187 : Params → Obj := fun _ => b3Sub.getD 23 default
noncomputable def h_188 : Params → Obj := fun _ => b3Sub.getD 24 default
noncomputable def h_189 : Params → Obj := fun _ => b3Sub.getD 25 default
noncomputable def h_190 : Params → Obj := fun _ => b3Sub.getD 26 default
noncomputable def h_191 : Params → Obj := fun _ => b3Sub.getD 27 default
noncomputable def h_192 : Params → Obj := fun _ => b3Sub.getD 28 default
noncomputable def h_193 : Params → Obj := fun _ => b3Sub.getD 29 default
noncomputable def h_194 : Params → Obj := fun _ => b3Sub.getD 30 default
noncomputable def h_195 : Params → Obj := fun _ => b3Sub.getD 31 default
noncomputable def h_196 : Params → Obj := fun _ => b3Sub.getD 32 default
noncomputable def h_197 : Params → Obj := fun _ => b3Sub.getD 33 default
noncomputable def h_198 : Params → Obj := fun _ => b3Sub.getD 34 default
noncomputable def h_199 : Params → Obj := fun _ => b3Sub.getD 35 default
noncomputable def h_200 : Params → Obj := fun _ => b3Sub.getD 36 default
noncomputable def h_201 : Params → Obj := fun _ => b3Sub.getD 37 default
noncomputable def h_3_15 : Params → Obj := fun P => ⟨(.type "dict"), none, (.dict #[⟨PyData.keyHash P (Str.ofString "__name__"), (.str (Str.ofString "__name__") 165), (.str (Str.ofString "cpy313.stringprep") 369)⟩, ⟨PyData.keyHash P (Str.ofString "__doc__"), (.str (Str.ofString "__doc__") 166), .none⟩, ⟨PyData.keyHash P (Str.ofString "__package__"), (.str (Str.ofString "__package__") 167), .none⟩, ⟨PyData.keyHash P (Str.ofString "__loader__"), (.str (Str.ofString "__loader__") 168), (.builtin "__main__.__loader__#opaque")⟩, ⟨PyData.keyHash P (Str.ofString "__spec__"), (.str (Str.ofString "__spec__") 169), .none⟩, ⟨PyData.keyHash P (Str.ofString "__annotations__"), (.str (Str.ofString "__annotations__") 170), (.ref 6)⟩, ⟨PyData.keyHash P (Str.ofString "__builtins__"), (.str (Str.ofString "__builtins__") 171), (.ref 4)⟩, ⟨PyData.keyHash P (Str.ofString "__file__"), (.str (Str.ofString "__file__") 173), (.str (Str.ofString "/claim/cut.py") 172)⟩, ⟨PyData.keyHash P (Str.ofString "__cached__"), (.str (Str.ofString "__cached__") 174), .none⟩, ⟨PyData.keyHash P (Str.ofString "_wall"), (.str (Str.ofString "_wall") 193), (.ref 21)⟩, ⟨PyData.keyHash P (Str.ofString "Whitespace"), (.str (Str.ofString "Whitespace") 293), (.ref 83)⟩, ⟨PyData.keyHash P (Str.ofString "and_"), (.str (Str.ofString "and_") 303), (.ref 94)⟩, ⟨PyData.keyHash P (Str.ofString "lshift"), (.str (Str.ofString "lshift") 311), (.ref 101)⟩, ⟨PyData.keyHash P (Str.ofString "or_"), (.str (Str.ofString "or_") 319), (.ref 108)⟩, ⟨PyData.keyHash P (Str.ofString "rshift"), (.str (Str.ofString "rshift") 327), (.ref 115)⟩, ⟨PyData.keyHash P (Str.ofString "concat"), (.str (Str.ofString "concat") 336), (.ref 122)⟩, ⟨PyData.keyHash P (Str.ofString "countOf"), (.str (Str.ofString "countOf") 346), (.ref 129)⟩, ⟨PyData.keyHash P (Str.ofString "indexOf"), (.str (Str.ofString "indexOf") 356), (.ref 136)⟩, ⟨PyData.keyHash P (Str.ofString "length_hint"), (.str (Str.ofString "length_hint") 368), (.ref 144)⟩, ⟨PyData.keyHash P (Str.ofString "b1_set"), (.str (Str.ofString "b1_set") 430), (.ref 152)⟩, ⟨PyData.keyHash P (Str.ofString "in_table_b1"), (.str (Str.ofString "in_table_b1") 437), (.ref 162)⟩, ⟨PyData.keyHash P (Str.ofString "b3_exceptions"), (.str (Str.ofString "b3_exceptions") 2388), (.ref 163)⟩] 22), #[]⟩
noncomputable def tr_15 : Params → BT := fun P => (.node (PySem.W.boot_o_0 P) (.node (PySem.W.boot_o_1 P) (.node (h_3_15 P) (.node (PySem.W.boot_o_7 P) (.node (h_15 P) (.node (h_31 P) (.node (h_63 P) (.node (h_127 P) .nil .nil) (.node (h_191 P) .nil .nil)) (.node (h_95 P) (.node (h_159 P) .nil .nil) .nil)) (.node (h_47 P) (.node (h_79 P) (.node (h_143 P) .nil .nil) .nil) (.node (h_111 P) (.node (h_175 P) .nil .nil) .nil))) (.node (h_23 P) (.node (h_39 P) (.node (h_71 P) (.node (h_135 P) .nil .nil) (.node (h_199 P) .nil .nil)) (.node (h_103 P) (.node (h_167 P) .nil .nil) .nil)) (.node (h_55 P) (.node (h_87 P) (.node (h_151 P) .nil .nil) .nil) (.node (h_119 P) (.node (h_183 P) .nil .nil) .nil)))) (.node (h_11_S P) (.node (h_19 P) (.node (h_35 P) (.node (h_67 P) (.node (h_131 P) .nil .nil) (.node (h_195 P) .nil .nil)) (.node (h_99 P) (.node (h_163 P) .nil .nil) .nil)) (.node (h_51 P) (.node (h_83 P) (.node (h_147 P) .nil .nil) .nil) (.node (h_115 P) (.node (h_179 P) .nil .nil) .nil))) (.node (h_27 P) (.node (h_43 P) (.node (h_75 P) (.node (h_139 P) .nil .nil) .nil) (.node (h_107 P) (.node (h_171 P) .nil .nil) .nil)) (.node (h_59 P) (.node (h_91 P) (.node (h_155 P) .nil .nil) .nil) (.node (h_123 P) (.node (h_187 P) .nil .nil) .nil))))) (.node (PySem.W.boot_o_5 P) (.node (PySem.W.boot_o_9 P) (.node (h_17 P) (.node (h_33 P) (.node (h_65 P) (.node (h_129 P) .nil .nil) (.node (h_193 P) .nil .nil)) (.node (h_97 P) (.node (h_161 P) .nil .nil) .nil)) (.node (h_49 P) (.node (h_81 P) (.node (h_145 P) .nil .nil) .nil) (.node (h_113 P) (.node (h_177 P) .nil .nil) .nil))) (.node (h_25 P) (.node (h_41 P) (.node (h_73 P) (.node (h_137 P) .nil .nil) (.node (h_201 P) .nil .nil)) (.node (h_105 P) (.node (h_169 P) .nil .nil) .nil)) (.node (h_57 P) (.node (h_89 P) (.node (h_153 P) .nil .nil) .nil) (.node (h_121 P) (.node (h_185 P) .nil .nil) .nil)))) (.node (h_13_S P) (.node (h_21 P) (.node (h_37 P) (.node (h_69 P) (.node (h_133 P) .nil .nil) (.node (h_197 P) .nil .nil)) (.node (h_101 P) (.node (h_165 P) .nil .nil) .nil)) (.node (h_53 P) (.node (h_85 P) (.node (h_149 P) .nil .nil) .nil) (.node (h_117 P) (.node (h_181 P) .nil .nil) .nil))) (.node (h_29 P) (.node (h_45 P) (.node (h_77 P) (.node (h_141 P) .nil .nil) .nil) (.node (h_109 P) (.node (h_173 P) .nil .nil) .nil)) (.node (h_61 P) (.node (h_93 P) (.node (h_157 P) .nil .nil) .nil) (.node (h_125 P) (.node (h_189 P) .nil .nil) .nil)))))) (.node (PySem.W.boot_o_2 P) (.node (PySem.W.boot_o_4 P) (.node (PySem.W.boot_o_8 P) (.node (h_16 P) (.node (h_32 P) (.node (h_64 P) (.node (h_128 P) .nil .nil) (.node (h_192 P) .nil .nil)) (.node (h_96 P) (.node (h_160 P) .nil .nil) .nil)) (.node (h_48 P) (.node (h_80 P) (.node (h_144 P) .nil .nil) .nil) (.node (h_112 P) (.node (h_176 P) .nil .nil) .nil))) (.node (h_24 P) (.node (h_40 P) (.node (h_72 P) (.node (h_136 P) .nil .nil) (.node (h_200 P) .nil .nil)) (.node (h_104 P) (.node (h_168 P) .nil .nil) .nil)) (.node (h_56 P) (.node (h_88 P) (.node (h_152 P) .nil .nil) .nil) (.node (h_120 P) (.node (h_184 P) .nil .nil) .nil)))) (.node (h_12_14 P) (.node (h_20 P) (.node (h_36 P) (.node (h_68 P) (.node (h_132 P) .nil .nil) (.node (h_196 P) .nil .nil)) (.node (h_100 P) (.node (h_164 P) .nil .nil) .nil)) (.node (h_52 P) (.node (h_84 P) (.node (h_148 P) .nil .nil) .nil) (.node (h_116 P) (.node (h_180 P) .nil .nil) .nil))) (.node (h_28 P) (.node (h_44 P) (.node (h_76 P) (.node (h_140 P) .nil .nil) .nil) (.node (h_108 P) (.node (h_172 P) .nil .nil) .nil)) (.node (h_60 P) (.node (h_92 P) (.node (h_156 P) .nil .nil) .nil) (.node (h_124 P) (.node (h_188 P) .nil .nil) .nil))))) (.node (PySem.W.boot_o_6 P) (.node (PySem.W.boot_o_10 P) (.node (h_18 P) (.node (h_34 P) (.node (h_66 P) (.node (h_130 P) .nil .nil) (.node (h_194 P) .nil .nil)) (.node (h_98 P) (.node (h_162 P) .nil .nil) .nil)) (.node (h_50 P) (.node (h_82 P) (.node (h_146 P) .nil .nil) .nil) (.node (h_114 P) (.node (h_178 P) .nil .nil) .nil))) (.node (h_26 P) (.node (h_42 P) (.node (h_74 P) (.node (h_138 P) .nil .nil) .nil) (.node (h_106 P) (.node (h_170 P) .nil .nil) .nil)) (.node (h_58 P) (.node (h_90 P) (.node (h_154 P) .nil .nil) .nil) (.node (h_122 P) (.node (h_186 P) .nil .nil) .nil)))) (.node (h_14_S P) (.node (h_22 P) (.node (h_38 P) (.node (h_70 P) (.node (h_134 P) .nil .nil) (.node (h_198 P) .nil .nil)) (.node (h_102 P) (.node (h_166 P) .nil .nil) .nil)) (.node (h_54 P) (.node (h_86 P) (.node (h_150 P) .nil .nil) .nil) (.node (h_118 P) (.node (h_182 P) .nil .nil) .nil))) (.node (h_30 P) (.node (h_46 P) (.node (h_78 P) (.node (h_142 P) .nil .nil) .nil) (.node (h_110 P) (.node (h_174 P) .nil .nil) .nil)) (.node (h_62 P) (.node (h_94 P) (.node (h_158 P) .nil .nil) .nil) (.node (h_126 P) (.node (h_190 P) .nil .nil) .nil)))))))
noncomputable def h_3_23 : Params → Obj := fun P => ⟨(.type "dict"), none, (.dict #[⟨PyData.keyHash P (Str.ofString "__name__"), (.str (Str.ofString "__name__") 165), (.str (Str.ofString "law_tl0059_01") 2397)⟩, ⟨PyData.keyHash P (Str.ofString "__doc__"), (.str (Str.ofString "__doc__") 166), .none⟩, ⟨PyData.keyHash P (Str.ofString "__package__"), (.str (Str.ofString "__package__") 167), .none⟩, ⟨PyData.keyHash P (Str.ofString "__loader__"), (.str (Str.ofString "__loader__") 168), (.builtin "__main__.__loader__#opaque")⟩, ⟨PyData.keyHash P (Str.ofString "__spec__"), (.str (Str.ofString "__spec__") 169), .none⟩, ⟨PyData.keyHash P (Str.ofString "__annotations__"), (.str (Str.ofString "__annotations__") 170), (.ref 6)⟩, ⟨PyData.keyHash P (Str.ofString "__builtins__"), (.str (Str.ofString "__builtins__") 171), (.ref 4)⟩, ⟨PyData.keyHash P (Str.ofString "__file__"), (.str (Str.ofString "__file__") 173), (.str (Str.ofString "/claim/cut.py") 172)⟩, ⟨PyData.keyHash P (Str.ofString "__cached__"), (.str (Str.ofString "__cached__") 174), .none⟩, ⟨PyData.keyHash P (Str.ofString "_wall"), (.str (Str.ofString "_wall") 193), (.ref 21)⟩, ⟨PyData.keyHash P (Str.ofString "Whitespace"), (.str (Str.ofString "Whitespace") 293), (.ref 83)⟩, ⟨PyData.keyHash P (Str.ofString "and_"), (.str (Str.ofString "and_") 303), (.ref 94)⟩, ⟨PyData.keyHash P (Str.ofString "lshift"), (.str (Str.ofString "lshift") 311), (.ref 101)⟩, ⟨PyData.keyHash P (Str.ofString "or_"), (.str (Str.ofString "or_") 319), (.ref 108)⟩, ⟨PyData.keyHash P (Str.ofString "rshift"), (.str (Str.ofString "rshift") 327), (.ref 115)⟩, ⟨PyData.keyHash P (Str.ofString "concat"), (.str (Str.ofString "concat") 336), (.ref 122)⟩, ⟨PyData.keyHash P (Str.ofString "countOf"), (.str (Str.ofString "countOf") 346), (.ref 129)⟩, ⟨PyData.keyHash P (Str.ofString "indexOf"), (.str (Str.ofString "indexOf") 356), (.ref 136)⟩, ⟨PyData.keyHash P (Str.ofString "length_hint"), (.str (Str.ofString "length_hint") 368), (.ref 144)⟩, ⟨PyData.keyHash P (Str.ofString "b1_set"), (.str (Str.ofString "b1_set") 430), (.ref 152)⟩, ⟨PyData.keyHash P (Str.ofString "in_table_b1"), (.str (Str.ofString "in_table_b1") 437), (.ref 162)⟩, ⟨PyData.keyHash P (Str.ofString "b3_exceptions"), (.str (Str.ofString "b3_exceptions") 2388), (.ref 163)⟩, ⟨PyData.keyHash P (Str.ofString "map_table_b3"), (.str (Str.ofString "map_table_b3") 2396), (.ref 208)⟩, ⟨PyData.keyHash P (Str.ofString "_law_typed"), (.str (Str.ofString "_law_typed") 2413), (.ref 215)⟩, ⟨PyData.keyHash P (Str.ofString "_law_prepared"), (.str (Str.ofString "_law_prepared") 2423), (.ref 222)⟩, ⟨PyData.keyHash P (Str.ofString "_law_figures"), (.str (Str.ofString "_law_figures") 2429), (.ref 227)⟩, ⟨PyData.keyHash P (Str.ofString "_law_gaps"), (.str (Str.ofString "_law_gaps") 2435), (.ref 232)⟩, ⟨PyData.keyHash P (Str.ofString "_law_lead"), (.str (Str.ofString "_law_lead") 2441), (.ref 237)⟩, ⟨PyData.keyHash P (Str.ofString "law"), (.str (Str.ofString "law") 2447), (.ref 242)⟩] 29), #[]⟩
noncomputable def h_12_23 : Params → Obj := fun P => ⟨.none, none, (.fields #[(.int 1 0), (.int 0 0), (.ref 20), (.int 5 0), (.int 0 0), (.ref 27), (.int 54 0), (.int 0 0), (.ref 93), (.int 56 0), (.int 0 0), (.ref 100), (.int 58 0), (.int 0 0), (.ref 107), (.int 60 0), (.int 0 0), (.ref 114), (.int 62 0), (.int 0 0), (.ref 121), (.int 67 0), (.int 0 0), (.ref 128), (.int 73 0), (.int 0 0), (.ref 135), (.int 79 0), (.int 0 0), (.ref 143), (.int 106 0), (.int 0 0), (.ref 161), (.int 109 0), (.int 0 0), (.ref 207), (.int 115 0), (.int 0 0), (.ref 214), (.int 130 0), (.int 0 0), (.ref 221), (.int 139 0), (.int 0 0), (.ref 226), (.int 145 0), (.int 0 0), (.ref 231), (.int 150 0), (.int 0 0), (.ref 236), (.int 152 0), (.int 0 0), (.ref 241)]), #[]⟩
noncomputable def h_202 : Params → Obj := fun P => ⟨(.type "tuple"), none, (.seq #[] 0), #[]⟩
noncomputable def h_203 : Params → Obj := fun P => ⟨.none, none, (.fields #[]), #[]⟩
noncomputable def h_204 : Params → Obj := fun P => ⟨(.type "tuple"), none, (.seq #[(.str (Str.ofString "code") 2392), (.str (Str.ofString "r") 2393)] 0), #[]⟩
noncomputable def h_205 : Params → Obj := fun P => ⟨(.type "tuple"), none, (.seq #[] 0), #[]⟩
noncomputable def h_206 : Params → Obj := fun P => ⟨.none, none, (.func ⟨(Str.ofString "map_table_b3"), (Str.ofString "map_table_b3"), fdA 16, .stmts (fdB 16), fdS 16, 0, [], .none, .none, .none, .none, none, .none, .none, 0⟩), #[]⟩
noncomputable def h_207 : Params → Obj := fun P => ⟨(.type "code"), none, (.fields #[(.str (Str.ofString "map_table_b3") 2389), (.str (Str.ofString "map_table_b3") 2390), (.str (Str.ofString "/claim/cut.py") 2391), (.int 109 0), (.int 1 0), (.int 0 0), (.int 0 0), (.int 3 0), (.ref 202), (.bool true), (.int 181 0), (.ref 203), .none, (.ref 204), (.ref 205), (.ref 206), (.int 2394 0), (.int 109 0), (.str (Str.ofString "/claim/cut.py") 2395)]), #[]⟩
noncomputable def h_208 : Params → Obj := fun P => ⟨(.type "function"), none, (.func ⟨(Str.ofString "map_table_b3"), (Str.ofString "map_table_b3"), fdA 16, .stmts (fdB 16), fdS 16, 3, [], .none, .none, .none, (.str (Str.ofString "cpy313.stringprep") 369), none, (.ref 207), .none, 0⟩), #[]⟩
noncomputable def h_209 : Params → Obj := fun P => ⟨(.type "tuple"), none, (.seq #[] 0), #[]⟩
noncomputable def h_210 : Params → Obj := fun P => ⟨.none, none, (.fields #[]), #[]⟩
noncomputable def h_211 : Params → Obj := fun P => ⟨(.type "tuple"), none, (.seq #[(.str (Str.ofString "kinds") 2402), (.str (Str.ofString "spelling") 2403), (.str (Str.ofString "unseen") 2404), (.str (Str.ofString "text") 2405), (.str (Str.ofString "at") 2406), (.str (Str.ofString "kind") 2407), (.str (Str.ofString "hidden") 2408), (.str (Str.ofString "form") 2409), (.str (Str.ofString "code") 2410)] 0), #[]⟩
noncomputable def h_212 : Params → Obj := fun P => ⟨(.type "tuple"), none, (.seq #[] 0), #[]⟩
noncomputable def h_213 : Params → Obj := fun P => ⟨.none, none, (.func ⟨(Str.ofString "_law_typed"), (Str.ofString "_law_typed"), fdA 18, .stmts (fdB 18), fdS 18, 0, [], .none, .none, .none, .none, none, .none, .none, 0⟩), #[]⟩
noncomputable def h_214 : Params → Obj := fun P => ⟨(.type "code"), none, (.fields #[(.str (Str.ofString "_law_typed") 2399), (.str (Str.ofString "_law_typed") 2400), (.str (Str.ofString "/claim/cut.py") 2401), (.int 115 0), (.int 3 0), (.int 0 0), (.int 0 0), (.int 3 0), (.ref 209), (.bool true), (.int 181 0), (.ref 210), .none, (.ref 211), (.ref 212), (.ref 213), (.int 2411 0), (.int 115 0), (.str (Str.ofString "/claim/cut.py") 2412)]), #[]⟩
noncomputable def h_215 : Params → Obj := fun P => ⟨(.type "function"), none, (.func ⟨(Str.ofString "_law_typed"), (Str.ofString "_law_typed"), fdA 18, .stmts (fdB 18), fdS 18, 3, [], .none, .none, .none, (.str (Str.ofString "law_tl0059_01") 2397), none, (.ref 214), .none, 0⟩), #[]⟩
noncomputable def h_216 : Params → Obj := fun P => ⟨(.type "tuple"), none, (.seq #[] 0), #[]⟩
noncomputable def h_217 : Params → Obj := fun P => ⟨.none, none, (.fields #[]), #[]⟩
noncomputable def h_218 : Params → Obj := fun P => ⟨(.type "tuple"), none, (.seq #[(.str (Str.ofString "text") 2417), (.str (Str.ofString "told") 2418), (.str (Str.ofString "sign") 2419), (.str (Str.ofString "held") 2420)] 0), #[]⟩
noncomputable def h_219 : Params → Obj := fun P => ⟨(.type "tuple"), none, (.seq #[] 0), #[]⟩
noncomputable def h_220 : Params → Obj := fun P => ⟨.none, none, (.func ⟨(Str.ofString "_law_prepared"), (Str.ofString "_law_prepared"), fdA 19, .stmts (fdB 19), fdS 19, 0, [], .none, .none, .none, .none, none, .none, .none, 0⟩), #[]⟩
noncomputable def h_221 : Params → Obj := fun P => ⟨(.type "code"), none, (.fields #[(.str (Str.ofString "_law_prepared") 2414), (.str (Str.ofString "_law_prepared") 2415), (.str (Str.ofString "/claim/cut.py") 2416), (.int 130 0), (.int 1 0), (.int 0 0), (.int 0 0), (.int 3 0), (.ref 216), (.bool true), (.int 181 0), (.ref 217), .none, (.ref 218), (.ref 219), (.ref 220), (.int 2421 0), (.int 130 0), (.str (Str.ofString "/claim/cut.py") 2422)]), #[]⟩
noncomputable def h_222 : Params → Obj := fun P => ⟨(.type "function"), none, (.func ⟨(Str.ofString "_law_prepared"), (Str.ofString "_law_prepared"), fdA 19, .stmts (fdB 19), fdS 19, 3, [], .none, .none, .none, (.str (Str.ofString "law_tl0059_01") 2397), none, (.ref 221), .none, 0⟩), #[]⟩
noncomputable def h_223 : Params → Obj := fun P => ⟨(.type "tuple"), none, (.seq #[] 0), #[]⟩
noncomputable def h_224 : Params → Obj := fun P => ⟨.none, none, (.fields #[]), #[]⟩
noncomputable def h_225 : Params → Obj := fun P => ⟨.none, none, (.func ⟨(Str.ofString "_law_figures"), (Str.ofString "_law_figures"), fdA 20, .stmts (fdB 20), fdS 20, 0, [], .none, .none, .none, .none, none, .none, .none, 0⟩), #[]⟩
noncomputable def h_226 : Params → Obj := fun P => ⟨(.type "code"), none, (.fields #[(.str (Str.ofString "_law_figures") 2424), (.str (Str.ofString "_law_figures") 2425), (.str (Str.ofString "/claim/cut.py") 2426), (.int 139 0), (.int 1 0), (.int 0 0), (.int 0 0), (.int 3 0), (.ref 223), (.bool true), (.int 181 0), (.ref 224), .none, .none, .none, (.ref 225), (.int 2427 0), (.int 139 0), (.str (Str.ofString "/claim/cut.py") 2428)]), #[]⟩
noncomputable def h_227 : Params → Obj := fun P => ⟨(.type "function"), none, (.func ⟨(Str.ofString "_law_figures"), (Str.ofString "_law_figures"), fdA 20, .stmts (fdB 20), fdS 20, 3, [], .none, .none, .none, (.str (Str.ofString "law_tl0059_01") 2397), none, (.ref 226), .none, 0⟩), #[]⟩
noncomputable def h_228 : Params → Obj := fun P => ⟨(.type "tuple"), none, (.seq #[] 0), #[]⟩
noncomputable def h_229 : Params → Obj := fun P => ⟨.none, none, (.fields #[]), #[]⟩
noncomputable def h_230 : Params → Obj := fun P => ⟨.none, none, (.func ⟨(Str.ofString "_law_gaps"), (Str.ofString "_law_gaps"), fdA 21, .stmts (fdB 21), fdS 21, 0, [], .none, .none, .none, .none, none, .none, .none, 0⟩), #[]⟩
noncomputable def h_231 : Params → Obj := fun P => ⟨(.type "code"), none, (.fields #[(.str (Str.ofString "_law_gaps") 2430), (.str (Str.ofString "_law_gaps") 2431), (.str (Str.ofString "/claim/cut.py") 2432), (.int 145 0), (.int 1 0), (.int 0 0), (.int 0 0), (.int 3 0), (.ref 228), (.bool true), (.int 181 0), (.ref 229), .none, .none, .none, (.ref 230), (.int 2433 0), (.int 145 0), (.str (Str.ofString "/claim/cut.py") 2434)]), #[]⟩
noncomputable def h_232 : Params → Obj := fun P => ⟨(.type "function"), none, (.func ⟨(Str.ofString "_law_gaps"), (Str.ofString "_law_gaps"), fdA 21, .stmts (fdB 21), fdS 21, 3, [], .none, .none, .none, (.str (Str.ofString "law_tl0059_01") 2397), none, (.ref 231), .none, 0⟩), #[]⟩
noncomputable def h_233 : Params → Obj := fun P => ⟨(.type "tuple"), none, (.seq #[] 0), #[]⟩
noncomputable def h_234 : Params → Obj := fun P => ⟨.none, none, (.fields #[]), #[]⟩
noncomputable def h_235 : Params → Obj := fun P => ⟨.none, none, (.func ⟨(Str.ofString "_law_lead"), (Str.ofString "_law_lead"), fdA 22, .stmts (fdB 22), fdS 22, 0, [], .none, .none, .none, .none, none, .none, .none, 0⟩), #[]⟩
noncomputable def h_236 : Params → Obj := fun P => ⟨(.type "code"), none, (.fields #[(.str (Str.ofString "_law_lead") 2436), (.str (Str.ofString "_law_lead") 2437), (.str (Str.ofString "/claim/cut.py") 2438), (.int 150 0), (.int 2 0), (.int 0 0), (.int 0 0), (.int 3 0), (.ref 233), (.bool true), (.int 181 0), (.ref 234), .none, .none, .none, (.ref 235), (.int 2439 0), (.int 150 0), (.str (Str.ofString "/claim/cut.py") 2440)]), #[]⟩
noncomputable def h_237 : Params → Obj := fun P => ⟨(.type "function"), none, (.func ⟨(Str.ofString "_law_lead"), (Str.ofString "_law_lead"), fdA 22, .stmts (fdB 22), fdS 22, 3, [], .none, .none, .none, (.str (Str.ofString "law_tl0059_01") 2397), none, (.ref 236), .none, 0⟩), #[]⟩
noncomputable def h_238 : Params → Obj := fun P => ⟨(.type "tuple"), none, (.seq #[] 0), #[]⟩
noncomputable def h_239 : Params → Obj := fun P => ⟨.none, none, (.fields #[]), #[]⟩
noncomputable def h_240 : Params → Obj := fun P => ⟨.none, none, (.func ⟨(Str.ofString "law"), (Str.ofString "law"), fdA 23, .stmts (fdB 23), fdS 23, 0, [], .none, .none, .none, .none, none, .none, .none, 0⟩), #[]⟩
noncomputable def h_241 : Params → Obj := fun P => ⟨(.type "code"), none, (.fields #[(.str (Str.ofString "law") 2442), (.str (Str.ofString "law") 2443), (.str (Str.ofString "/claim/cut.py") 2444), (.int 152 0), (.int 1 0), (.int 0 0), (.int 0 0), (.int 3 0), (.ref 238), (.bool true), (.int 181 0), (.ref 239), .none, .none, .none, (.ref 240), (.int 2445 0), (.int 152 0), (.str (Str.ofString "/claim/cut.py") 2446)]), #[]⟩
noncomputable def h_242 : Params → Obj := fun P => ⟨(.type "function"), none, (.func ⟨(Str.ofString "law"), (Str.ofString "law"), fdA 23, .stmts (fdB 23), fdS 23, 3, [], .none, .none, .none, (.str (Str.ofString "law_tl0059_01") 2397), none, (.ref 241), .none, 0⟩), #[]⟩
noncomputable def tr_23 : Params → BT := fun P => (.node (PySem.W.boot_o_0 P) (.node (PySem.W.boot_o_1 P) (.node (h_3_23 P) (.node (PySem.W.boot_o_7 P) (.node (h_15 P) (.node (h_31 P) (.node (h_63 P) (.node (h_127 P) .nil .nil) (.node (h_191 P) .nil .nil)) (.node (h_95 P) (.node (h_159 P) .nil .nil) (.node (h_223 P) .nil .nil))) (.node (h_47 P) (.node (h_79 P) (.node (h_143 P) .nil .nil) (.node (h_207 P) .nil .nil)) (.node (h_111 P) (.node (h_175 P) .nil .nil) (.node (h_239 P) .nil .nil)))) (.node (h_23 P) (.node (h_39 P) (.node (h_71 P) (.node (h_135 P) .nil .nil) (.node (h_199 P) .nil .nil)) (.node (h_103 P) (.node (h_167 P) .nil .nil) (.node (h_231 P) .nil .nil))) (.node (h_55 P) (.node (h_87 P) (.node (h_151 P) .nil .nil) (.node (h_215 P) .nil .nil)) (.node (h_119 P) (.node (h_183 P) .nil .nil) .nil)))) (.node (h_11_S P) (.node (h_19 P) (.node (h_35 P) (.node (h_67 P) (.node (h_131 P) .nil .nil) (.node (h_195 P) .nil .nil)) (.node (h_99 P) (.node (h_163 P) .nil .nil) (.node (h_227 P) .nil .nil))) (.node (h_51 P) (.node (h_83 P) (.node (h_147 P) .nil .nil) (.node (h_211 P) .nil .nil)) (.node (h_115 P) (.node (h_179 P) .nil .nil) .nil))) (.node (h_27 P) (.node (h_43 P) (.node (h_75 P) (.node (h_139 P) .nil .nil) (.node (h_203 P) .nil .nil)) (.node (h_107 P) (.node (h_171 P) .nil .nil) (.node (h_235 P) .nil .nil))) (.node (h_59 P) (.node (h_91 P) (.node (h_155 P) .nil .nil) (.node (h_219 P) .nil .nil)) (.node (h_123 P) (.node (h_187 P) .nil .nil) .nil))))) (.node (PySem.W.boot_o_5 P) (.node (PySem.W.boot_o_9 P) (.node (h_17 P) (.node (h_33 P) (.node (h_65 P) (.node (h_129 P) .nil .nil) (.node (h_193 P) .nil .nil)) (.node (h_97 P) (.node (h_161 P) .nil .nil) (.node (h_225 P) .nil .nil))) (.node (h_49 P) (.node (h_81 P) (.node (h_145 P) .nil .nil) (.node (h_209 P) .nil .nil)) (.node (h_113 P) (.node (h_177 P) .nil .nil) (.node (h_241 P) .nil .nil)))) (.node (h_25 P) (.node (h_41 P) (.node (h_73 P) (.node (h_137 P) .nil .nil) (.node (h_201 P) .nil .nil)) (.node (h_105 P) (.node (h_169 P) .nil .nil) (.node (h_233 P) .nil .nil))) (.node (h_57 P) (.node (h_89 P) (.node (h_153 P) .nil .nil) (.node (h_217 P) .nil .nil)) (.node (h_121 P) (.node (h_185 P) .nil .nil) .nil)))) (.node (h_13_S P) (.node (h_21 P) (.node (h_37 P) (.node (h_69 P) (.node (h_133 P) .nil .nil) (.node (h_197 P) .nil .nil)) (.node (h_101 P) (.node (h_165 P) .nil .nil) (.node (h_229 P) .nil .nil))) (.node (h_53 P) (.node (h_85 P) (.node (h_149 P) .nil .nil) (.node (h_213 P) .nil .nil)) (.node (h_117 P) (.node (h_181 P) .nil .nil) .nil))) (.node (h_29 P) (.node (h_45 P) (.node (h_77 P) (.node (h_141 P) .nil .nil) (.node (h_205 P) .nil .nil)) (.node (h_109 P) (.node (h_173 P) .nil .nil) (.node (h_237 P) .nil .nil))) (.node (h_61 P) (.node (h_93 P) (.node (h_157 P) .nil .nil) (.node (h_221 P) .nil .nil)) (.node (h_125 P) (.node (h_189 P) .nil .nil) .nil)))))) (.node (PySem.W.boot_o_2 P) (.node (PySem.W.boot_o_4 P) (.node (PySem.W.boot_o_8 P) (.node (h_16 P) (.node (h_32 P) (.node (h_64 P) (.node (h_128 P) .nil .nil) (.node (h_192 P) .nil .nil)) (.node (h_96 P) (.node (h_160 P) .nil .nil) (.node (h_224 P) .nil .nil))) (.node (h_48 P) (.node (h_80 P) (.node (h_144 P) .nil .nil) (.node (h_208 P) .nil .nil)) (.node (h_112 P) (.node (h_176 P) .nil .nil) (.node (h_240 P) .nil .nil)))) (.node (h_24 P) (.node (h_40 P) (.node (h_72 P) (.node (h_136 P) .nil .nil) (.node (h_200 P) .nil .nil)) (.node (h_104 P) (.node (h_168 P) .nil .nil) (.node (h_232 P) .nil .nil))) (.node (h_56 P) (.node (h_88 P) (.node (h_152 P) .nil .nil) (.node (h_216 P) .nil .nil)) (.node (h_120 P) (.node (h_184 P) .nil .nil) .nil)))) (.node (h_12_23 P) (.node (h_20 P) (.node (h_36 P) (.node (h_68 P) (.node (h_132 P) .nil .nil) (.node (h_196 P) .nil .nil)) (.node (h_100 P) (.node (h_164 P) .nil .nil) (.node (h_228 P) .nil .nil))) (.node (h_52 P) (.node (h_84 P) (.node (h_148 P) .nil .nil) (.node (h_212 P) .nil .nil)) (.node (h_116 P) (.node (h_180 P) .nil .nil) .nil))) (.node (h_28 P) (.node (h_44 P) (.node (h_76 P) (.node (h_140 P) .nil .nil) (.node (h_204 P) .nil .nil)) (.node (h_108 P) (.node (h_172 P) .nil .nil) (.node (h_236 P) .nil .nil))) (.node (h_60 P) (.node (h_92 P) (.node (h_156 P) .nil .nil) (.node (h_220 P) .nil .nil)) (.node (h_124 P) (.node (h_188 P) .nil .nil) .nil))))) (.node (PySem.W.boot_o_6 P) (.node (PySem.W.boot_o_10 P) (.node (h_18 P) (.node (h_34 P) (.node (h_66 P) (.node (h_130 P) .nil .nil) (.node (h_194 P) .nil .nil)) (.node (h_98 P) (.node (h_162 P) .nil .nil) (.node (h_226 P) .nil .nil))) (.node (h_50 P) (.node (h_82 P) (.node (h_146 P) .nil .nil) (.node (h_210 P) .nil .nil)) (.node (h_114 P) (.node (h_178 P) .nil .nil) (.node (h_242 P) .nil .nil)))) (.node (h_26 P) (.node (h_42 P) (.node (h_74 P) (.node (h_138 P) .nil .nil) (.node (h_202 P) .nil .nil)) (.node (h_106 P) (.node (h_170 P) .nil .nil) (.node (h_234 P) .nil .nil))) (.node (h_58 P) (.node (h_90 P) (.node (h_154 P) .nil .nil) (.node (h_218 P) .nil .nil)) (.node (h_122 P) (.node (h_186 P) .nil .nil) .nil)))) (.node (h_14_S P) (.node (h_22 P) (.node (h_38 P) (.node (h_70 P) (.node (h_134 P) .nil .nil) (.node (h_198 P) .nil .nil)) (.node (h_102 P) (.node (h_166 P) .nil .nil) (.node (h_230 P) .nil .nil))) (.node (h_54 P) (.node (h_86 P) (.node (h_150 P) .nil .nil) (.node (h_214 P) .nil .nil)) (.node (h_118 P) (.node (h_182 P) .nil .nil) .nil))) (.node (h_30 P) (.node (h_46 P) (.node (h_78 P) (.node (h_142 P) .nil .nil) (.node (h_206 P) .nil .nil)) (.node (h_110 P) (.node (h_174 P) .nil .nil) (.node (h_238 P) .nil .nil))) (.node (h_62 P) (.node (h_94 P) (.node (h_158 P) .nil .nil) (.node (h_222 P) .nil .nil)) (.node (h_126 P) (.node (h_190 P) .nil .nil) .nil)))))))
end Mine
-- HK
namespace Mine
open PySem PySem.W PyProof.Rows
noncomputable def KK : Params → Frag := fun P => ((nat_lit 0), PySem.W.boot_o_0 P) :: ((nat_lit 1), PySem.W.boot_o_1 P) :: ((nat_lit 2), PySem.W.boot_o_2 P) :: ((nat_lit 3), h_3_23 P) :: ((nat_lit 4), PySem.W.boot_o_4 P) :: ((nat_lit 5), PySem.W.boot_o_5 P) :: ((nat_lit 6), PySem.W.boot_o_6 P) :: ((nat_lit 7), PySem.W.boot_o_7 P) :: ((nat_lit 9), PySem.W.boot_o_9 P) :: ((nat_lit 10), PySem.W.boot_o_10 P) :: ((nat_lit 11), h_11_S P) :: ((nat_lit 13), h_13_S P) :: ((nat_lit 14), h_14_S P) :: ((nat_lit 15), h_15 P) :: ((nat_lit 17), h_17 P) :: ((nat_lit 18), h_18 P) :: ((nat_lit 20), h_20 P) :: ((nat_lit 21), h_21 P) :: ((nat_lit 22), h_22 P) :: ((nat_lit 23), h_23 P) :: ((nat_lit 24), h_24 P) :: ((nat_lit 25), h_25 P) :: ((nat_lit 27), h_27 P) :: ((nat_lit 28), h_28 P) :: ((nat_lit 29), h_29 P) :: ((nat_lit 30), h_30 P) :: ((nat_lit 31), h_31 P) :: ((nat_lit 32), h_32 P) :: ((nat_lit 34), h_34 P) :: ((nat_lit 35), h_35 P) :: ((nat_lit 37), h_37 P) :: ((nat_lit 38), h_38 P) :: ((nat_lit 39), h_39 P) :: ((nat_lit 41), h_41 P) :: ((nat_lit 42), h_42 P) :: ((nat_lit 44), h_44 P) :: ((nat_lit 45), h_45 P) :: ((nat_lit 46), h_46 P) :: ((nat_lit 48), h_48 P) :: ((nat_lit 49), h_49 P) :: ((nat_lit 51), h_51 P) :: ((nat_lit 52), h_52 P) :: ((nat_lit 53), h_53 P) :: ((nat_lit 55), h_55 P) :: ((nat_lit 56), h_56 P) :: ((nat_lit 58), h_58 P) :: ((nat_lit 59), h_59 P) :: ((nat_lit 60), h_60 P) :: ((nat_lit 62), h_62 P) :: ((nat_lit 63), h_63 P) :: ((nat_lit 65), h_65 P) :: ((nat_lit 66), h_66 P) :: ((nat_lit 67), h_67 P) :: ((nat_lit 69), h_69 P) :: ((nat_lit 70), h_70 P) :: ((nat_lit 72), h_72 P) :: ((nat_lit 73), h_73 P) :: ((nat_lit 74), h_74 P) :: ((nat_lit 76), h_76 P) :: ((nat_lit 77), h_77 P) :: ((nat_lit 79), h_79 P) :: ((nat_lit 80), h_80 P) :: ((nat_lit 81), h_81 P) :: ((nat_lit 82), h_82 P) :: ((nat_lit 83), h_83 P) :: ((nat_lit 84), h_84 P) :: ((nat_lit 85), h_85 P) :: ((nat_lit 86), h_86 P) :: ((nat_lit 87), h_87 P) :: ((nat_lit 88), h_88 P) :: ((nat_lit 90), h_90 P) :: ((nat_lit 91), h_91 P) :: ((nat_lit 93), h_93 P) :: ((nat_lit 94), h_94 P) :: ((nat_lit 95), h_95 P) :: ((nat_lit 97), h_97 P) :: ((nat_lit 98), h_98 P) :: ((nat_lit 100), h_100 P) :: ((nat_lit 101), h_101 P) :: ((nat_lit 102), h_102 P) :: ((nat_lit 104), h_104 P) :: ((nat_lit 105), h_105 P) :: ((nat_lit 107), h_107 P) :: ((nat_lit 108), h_108 P) :: ((nat_lit 109), h_109 P) :: ((nat_lit 111), h_111 P) :: ((nat_lit 112), h_112 P) :: ((nat_lit 114), h_114 P) :: ((nat_lit 115), h_115 P) :: ((nat_lit 116), h_116 P) :: ((nat_lit 118), h_118 P) :: ((nat_lit 119), h_119 P) :: ((nat_lit 121), h_121 P) :: ((nat_lit 122), h_122 P) :: ((nat_lit 123), h_123 P) :: ((nat_lit 125), h_125 P) :: ((nat_lit 126), h_126 P) :: ((nat_lit 128), h_128 P) :: ((nat_lit 129), h_129 P) :: ((nat_lit 130), h_130 P) :: ((nat_lit 132), h_132 P) :: ((nat_lit 133), h_133 P) :: ((nat_lit 135), h_135 P) :: ((nat_lit 136), h_136 P) :: ((nat_lit 137), h_137 P) :: ((nat_lit 138), h_138 P) :: ((nat_lit 140), h_140 P) :: ((nat_lit 141), h_141 P) :: ((nat_lit 143), h_143 P) :: ((nat_lit 144), h_144 P) :: ((nat_lit 152), h_152 P) :: ((nat_lit 156), h_156 P) :: ((nat_lit 158), h_158 P) :: ((nat_lit 159), h_159 P) :: ((nat_lit 161), h_161 P) :: ((nat_lit 162), h_162 P) :: ((nat_lit 163), h_163 P) :: ((nat_lit 202), h_202 P) :: ((nat_lit 204), h_204 P) :: ((nat_lit 205), h_205 P) :: ((nat_lit 207), h_207 P) :: ((nat_lit 208), h_208 P) :: ((nat_lit 209), h_209 P) :: ((nat_lit 211), h_211 P) :: ((nat_lit 212), h_212 P) :: ((nat_lit 214), h_214 P) :: ((nat_lit 215), h_215 P) :: ((nat_lit 216), h_216 P) :: ((nat_lit 218), h_218 P) :: ((nat_lit 219), h_219 P) :: ((nat_lit 221), h_221 P) :: ((nat_lit 222), h_222 P) :: ((nat_lit 223), h_223 P) :: ((nat_lit 226), h_226 P) :: ((nat_lit 227), h_227 P) :: ((nat_lit 228), h_228 P) :: ((nat_lit 231), h_231 P) :: ((nat_lit 232), h_232 P) :: ((nat_lit 233), h_233 P) :: ((nat_lit 236), h_236 P) :: ((nat_lit 237), h_237 P) :: ((nat_lit 238), h_238 P) :: ((nat_lit 241), h_241 P) :: ((nat_lit 242), h_242 P) :: []
noncomputable def kas : List Addr := [(nat_lit 0), (nat_lit 1), (nat_lit 2), (nat_lit 3), (nat_lit 4), (nat_lit 5), (nat_lit 6), (nat_lit 7), (nat_lit 9), (nat_lit 10), (nat_lit 11), (nat_lit 13), (nat_lit 14), (nat_lit 15), (nat_lit 17), (nat_lit 18), (nat_lit 20), (nat_lit 21), (nat_lit 22), (nat_lit 23), (nat_lit 24), (nat_lit 25), (nat_lit 27), (nat_lit 28), (nat_lit 29), (nat_lit 30), (nat_lit 31), (nat_lit 32), (nat_lit 34), (nat_lit 35), (nat_lit 37), (nat_lit 38), (nat_lit 39), (nat_lit 41), (nat_lit 42), (nat_lit 44), (nat_lit 45), (nat_lit 46), (nat_lit 48), (nat_lit 49), (nat_lit 51), (nat_lit 52), (nat_lit 53), (nat_lit 55), (nat_lit 56), (nat_lit 58), (nat_lit 59), (nat_lit 60), (nat_lit 62), (nat_lit 63), (nat_lit 65), (nat_lit 66), (nat_lit 67), (nat_lit 69), (nat_lit 70), (nat_lit 72), (nat_lit 73), (nat_lit 74), (nat_lit 76), (nat_lit 77), (nat_lit 79), (nat_lit 80), (nat_lit 81), (nat_lit 82), (nat_lit 83), (nat_lit 84), (nat_lit 85), (nat_lit 86), (nat_lit 87), (nat_lit 88), (nat_lit 90), (nat_lit 91), (nat_lit 93), (nat_lit 94), (nat_lit 95), (nat_lit 97), (nat_lit 98), (nat_lit 100), (nat_lit 101), (nat_lit 102), (nat_lit 104), (nat_lit 105), (nat_lit 107), (nat_lit 108), (nat_lit 109), (nat_lit 111), (nat_lit 112), (nat_lit 114), (nat_lit 115), (nat_lit 116), (nat_lit 118), (nat_lit 119), (nat_lit 121), (nat_lit 122), (nat_lit 123), (nat_lit 125), (nat_lit 126), (nat_lit 128), (nat_lit 129), (nat_lit 130), (nat_lit 132), (nat_lit 133), (nat_lit 135), (nat_lit 136), (nat_lit 137), (nat_lit 138), (nat_lit 140), (nat_lit 141), (nat_lit 143), (nat_lit 144), (nat_lit 152), (nat_lit 156), (nat_lit 158), (nat_lit 159), (nat_lit 161), (nat_lit 162), (nat_lit 163), (nat_lit 202), (nat_lit 204), (nat_lit 205), (nat_lit 207), (nat_lit 208), (nat_lit 209), (nat_lit 211), (nat_lit 212), (nat_lit 214), (nat_lit 215), (nat_lit 216), (nat_lit 218), (nat_lit 219), (nat_lit 221), (nat_lit 222), (nat_lit 223), (nat_lit 226), (nat_lit 227), (nat_lit 228), (nat_lit 231), (nat_lit 232), (nat_lit 233), (nat_lit 236), (nat_lit 237), (nat_lit 238), (nat_lit 241), (nat_lit 242)]
end Mine
-- HP1
namespace Mine
open PySem PySem.W PyProof.Rows
noncomputable def ENV : Env := { scope := PW.main.scope, locals := mainNs, globals := mainNs, cells := [], code := .ref 13, frame := some 14 }
noncomputable abbrev CD : Code := .body (behindTheImports PW) ENV
noncomputable abbrev SB (w : World) (os : OsState) : SharedT := ⟨tr_S w.params, 15, {}, ⟨[]⟩, {}, 187, os⟩
noncomputable abbrev S12 (w : World) (os : OsState) : SharedT := ⟨tr_12 w.params, 145, {}, ⟨[]⟩, {}, 371, os⟩
noncomputable abbrev S13 (w : World) (os : OsState) : SharedT := ⟨tr_13 w.params, 156, {}, ⟨[]⟩, {}, 431, os⟩
noncomputable abbrev S14 (w : World) (os : OsState) : SharedT := ⟨tr_14 w.params, 163, {}, ⟨[]⟩, {}, 438, os⟩
noncomputable abbrev S15 (w : World) (os : OsState) : SharedT := ⟨tr_15 w.params, 202, {}, ⟨[]⟩, {}, 2389, os⟩
noncomputable abbrev S23 (w : World) (os : OsState) : SharedT := ⟨tr_23 w.params, 243, {}, ⟨[]⟩, {}, 2448, os⟩
noncomputable abbrev BT1 : List Frame := [topFrame default]
theorem p14T (w : World) (os : OsState) : segRunT treeTable PW w 11 (some (.ref 6)) 1 30 (S13 w os) (piecesOf [stAt 14] ENV CD ⟨105, 0, 105, 6⟩ BT1) = some (.next, S14 w os, CD, ⟨106, 0, 107, 30⟩) := by
  rw [PySem.W.Fast.te10110043849684766642, PySem.W.Fast.te14364793385576792824]
  kernel_rfl
noncomputable def sts8 : List Stmt := [stAt 16, stAt 17, stAt 18, stAt 19, stAt 20, stAt 21, stAt 22, stAt 23]
theorem p23T (w : World) (os : OsState) : segRunT treeTable PW w 11 (some (.ref 6)) 1 300 (S15 w os) (piecesOf sts8 ENV CD ⟨108, 0, 108, 13⟩ BT1) = some (.next, S23 w os, CD, ⟨152, 0, 194, 15⟩) := by
  rw [PySem.W.Fast.te10110043849684766642, PySem.W.Fast.te14364793385576792824]
  kernel_rfl
noncomputable def stsI : List Stmt := [stAt 0, stAt 1, stAt 2, stAt 3, stAt 4, stAt 5, stAt 6, stAt 7, stAt 8, stAt 9, stAt 10, stAt 11, stAt 12]
noncomputable def P12 (w : World) : Prop := ∀ os : OsState, segRunT treeTable PW w 11 (some (.ref 6)) 1 850 (SB w os) (piecesOf stsI ENV CD default BT1) = some (.next, S12 w os, CD, ⟨104, 0, 104, 8⟩)
theorem p12T : ∀ w : World, P12 w := fun w => by
  refine byRow2 "special-get-raises" (P := P12) (fun w => ?_) (fun w => ?_) w
  all_goals
    intro os
    rw [PySem.W.Fast.te10110043849684766642, PySem.W.Fast.te14364793385576792824]
    kernel_rfl
end Mine
-- HP2
namespace Mine
open PySem PySem.W PyProof.Rows
noncomputable def P13 (w : World) : Prop := ∀ os : OsState, segRunT treeTable PW w 11 (some (.ref 6)) 1 999 (S12 w os) (piecesOf [stAt 13] ENV CD ⟨104, 0, 104, 8⟩ BT1) = some (.next, S13 w os, CD, ⟨105, 0, 105, 6⟩)
theorem p13T : ∀ w : World, P13 w := fun w => by
  refine byRow2 "set-order" (P := P13) (fun w => byRow2 "special-get-raises" (P := fun w' => P13 (w'.withFollow "set-order" false)) (fun w => ?_) (fun w => ?_) w) (fun w => byRow2 "special-get-raises" (P := fun w' => P13 (w'.withFollow "set-order" true)) (fun w => ?_) (fun w => ?_) w) w
  all_goals
    intro os
    rw [PySem.W.Fast.te10110043849684766642, PySem.W.Fast.te14364793385576792824]
    kernel_rfl
end Mine
-- HP3
namespace Mine
open PySem PySem.W PyProof.Rows
theorem st15_eq : stAt 15 = .Assign b3T b3V b3P := by kernel_rfl
theorem b3V_eq : b3V = .Dict b3K b3W b3Q := by kernel_rfl
theorem items_eq : (evalEachOpt b3K ENV).zip ((evalEach b3W ENV).map fun v => do let x ← v; standAt b3Q; pure x) = itemsOf (prs b3Q (b3C1 ++ b3CS.flatten ++ b3End)) := by kernel_rfl
theorem b3_17 : b3CS.all (fun c => c.length == 17) = true := by decide +kernel
noncomputable def hashLt : List Int → Bool
  | a :: b :: l => decide (a < b) && hashLt (b :: l)
  | _ => true
theorem hashLt_iff : ∀ {l : List Int}, hashLt l = true → l.Pairwise (· < ·)
  | [], _ => .nil
  | [a], _ => .cons (fun _ h => nomatch h) .nil
  | a :: b :: l, h => by
    obtain ⟨h1, h2⟩ := Bool.and_eq_true_iff.mp h
    have ih := hashLt_iff h2
    refine .cons (fun c hc => ?_) ih
    have h1 := of_decide_eq_true h1
    rcases List.mem_cons.mp hc with rfl | hc
    · exact h1
    · exact Int.lt_trans h1 ((List.pairwise_cons.mp ih).1 c hc)
theorem b3_lt : hashLt ((b3C1 ++ b3CS.flatten ++ b3End).map fun x => hashInt x.1) = true := by decide +kernel
theorem b3_nodup : ((b3C1 ++ b3CS.flatten ++ b3End).map fun x => hashInt x.1).Nodup := (hashLt_iff b3_lt).imp fun h => Int.ne_of_lt h
theorem b3_len1 : b3C1.length = 17 := by decide +kernel
theorem b3_len3 : b3End.length = 4 := by decide +kernel
theorem b3_len2 : (b3C1 ++ b3CS.flatten).length = 646 := by decide +kernel
theorem b3_lenC : b3CS.length = 37 := by decide +kernel
theorem b3_heap (w : World) : HP (absHeap (tr_14 w.params) 163 {}) (dobj b3E.toArray 650 :: b3Sub) = HP (absHeap (tr_14 w.params) 163 {}) (h_163 w.params :: b3Sub) := rfl
theorem swaps15 : swapsWithSole b3T b3V b3P.line ENV = Sem.pure false := by kernel_rfl
end Mine
-- HP4
namespace Mine
open PySem PySem.W PyProof.Rows
noncomputable def rest15 (v : Value) : Sem Flow := do
  assignStores ENV v (← swappedStores b3T b3V ENV) ((assignEach b3T ENV).map (·.2))
noncomputable abbrev S14m (w : World) (os : OsState) : Shared := ⟨HP (absHeap (tr_14 w.params) 163 {}) (dobj b3E.toArray 650 :: b3Sub), ⟨[]⟩, {}, 2388, os⟩
theorem rest15_eq (w : World) (os : OsState) (q : Pos) (K : Flow → Sem Fin) (H : Value → Sem Fin) (gd : Bool → Bool) (lv : List Value → List Value) (c : Code) (f : Frame) (N : Nat) :
    TR w (N + 7) (S14m w os) ⟨(rest15 (.ref 163)).wrap K H gd lv, c, q, [f]⟩ = TR w N (S15 w os).abs ⟨K .next, c, ⟨108, 0, 108, 13⟩, [f]⟩ := by
  kernel_rfl
end Mine
-- HP5
namespace Mine
open PySem PySem.W PyProof.Rows
theorem goes_exec15 (w : World) (os : OsState) (q : Pos) : Goes w (1 + (0 + ((1 + 330 * (37 + 2)) + 7))) (exec (.Assign b3T b3V b3P) ENV) (S14 w os).abs q .next (S15 w os).abs ⟨108, 0, 108, 13⟩ := by
  show Goes w _ (Sem.bind (standAt b3P) fun _ => Sem.bind (swapsWithSole b3T b3V b3P.line ENV) fun b => if b = true then _ else Sem.bind (eval b3V ENV) fun v => rest15 v) _ q _ _ _
  refine (Goes.at' b3P).bind ?_
  rw [swaps15]
  refine (Goes.pure false).bind ?_
  rw [if_neg Bool.false_ne_true]
  refine Goes.bind (a := .ref 163) (s' := S14m w os) (q' := b3Q) ?_ ?_
  · rw [b3V_eq]
    show Goes w _ (Sem.bind (standAt b3Q) fun _ => dictDisplay _) _ _ _ _ _
    refine (Goes.at' b3Q).bind ?_
    rw [items_eq]
    have h := goes_display (w := w) (p := b3Q) (b := absHeap (tr_14 w.params) 163 {}) (by rw [absHeap_size]; rfl) b3C1 b3End b3CS (S14 w os).abs b3_len1 (fun c hc => by simpa using List.all_eq_true.mp b3_17 c hc) (by intro e; have := b3_len3; rw [e] at this; cases this) (by rw [b3_len3]; decide) b3_nodup (by rw [List.length_append, b3_len2, b3_len3]; decide)
    rw [absHeap_size, b3_lenC, b3_len1, b3_len2, b3_len3] at h
    exact h
  · intro K H gd lv c f r N h
    rw [Nat.add_comm 7 N, rest15_eq]
    exact h
end Mine
-- HP6
namespace Mine
open PySem PySem.W PyProof.Rows
theorem preT (w : World) (os : OsState) : topGo treeTable PW w 11 (some (.ref 6)) 12 ⟨boot_heap w.params, Array.mk [], boot_drawn, boot_toks, os⟩ (topStub PW) = some ((SB w os).abs, ⟨denote treeTable CD, CD, default, BT1⟩) := by
  kernel_rfl
theorem blockT (w : World) (os : OsState) : segRun treeTable PW w 11 (some (.ref 6)) 1 1 (SB w os).abs (blockOf (behindTheImports PW) ENV CD default BT1) = some (.next, (SB w os).abs, CD, default) := by
  kernel_rfl
theorem body_eq : behindTheImports PW = stsI ++ (([stAt 13] ++ ([stAt 14] ++ (stAt 15 :: (sts8 ++ []))))) := by kernel_rfl
theorem finT (w : World) (os : OsState) : topRun treeTable PW w 11 (some (.ref 6)) 2 (S23 w os).abs ⟨doneF .next, CD, ⟨152, 0, 194, 15⟩, BT1⟩ = some (S23 w os).abs := by
  kernel_rfl
theorem p15R (w : World) (os : OsState) (rest : List Stmt) (N : Nat) (r : Shared) (h : topRun treeTable PW w 11 (some (.ref 6)) N (S15 w os).abs (restOf rest ENV CD ⟨108, 0, 108, 13⟩ BT1) = some r) :
    topRun treeTable PW w 11 (some (.ref 6)) (1 + (0 + ((1 + 330 * (37 + 2)) + 7)) + N) (S14 w os).abs (restOf (stAt 15 :: rest) ENV CD ⟨106, 0, 107, 30⟩ BT1) = some r := by
  unfold restOf
  rw [execs_cons_wrap, st15_eq]
  exact goes_exec15 w os _ _ _ _ _ _ _ _ _ h
noncomputable def MM : Nat := 12 + (1 + (850 + (999 + (30 + (1 + (0 + ((1 + 330 * (37 + 2)) + 7)) + (300 + 2))))))
theorem runT (w : World) (os : OsState) : topRun treeTable PW w 11 (some (.ref 6)) MM ⟨boot_heap w.params, Array.mk [], boot_drawn, boot_toks, os⟩ (topStub PW) = some (S23 w os).abs := by
  unfold MM
  refine go_top (preT w os) (piece_block (blockT w os) ?_)
  have h : topRun treeTable PW w 11 (some (.ref 6)) (850 + (999 + (30 + (1 + (0 + ((1 + 330 * (37 + 2)) + 7)) + (300 + 2))))) (SB w os).abs (restOf (stsI ++ (([stAt 13] ++ ([stAt 14] ++ (stAt 15 :: (sts8 ++ [])))))) ENV CD default BT1) = some (S23 w os).abs := piece_app (segRun_of (p12T w os)) (piece_app (segRun_of (p13T w os)) (piece_app (segRun_of (p14T w os)) (p15R w os _ _ _ (piece_app (segRun_of (p23T w os)) (finT w os)))))
  rw [← body_eq] at h
  exact h
end Mine
-- HQ
namespace Mine
open PySem PySem.W PyProof.Rows
noncomputable def QQ : Program := { PW with main := { PW.main with body := [stAt 0, stAt 2, stAt 4, stAt 5, stAt 6, stAt 7, stAt 8, stAt 9, stAt 10, stAt 13, stAt 14, stAt 15, stAt 16, stAt 18, stAt 19, stAt 20, stAt 21, stAt 22, stAt 23] } }
noncomputable def LL : List Str := [Str.ofString "Whitespace", Str.ofString "length_hint", Str.ofString "b1_set", Str.ofString "b3_exceptions"]
noncomputable def HK : Hook := kHook KK kas (fun _ => by kernel_rfl)
noncomputable def H1 : Params → Heap := fun P => absHeap (tr_23 P) 243 {}
theorem openT : ∀ w : World, (fencedOpening treeTable PW w 40000).map (fun s => (s.heap, s.gens, s.drawn, s.toks)) = some (boot_heap w.params, Array.mk [], boot_drawn, boot_toks) :=
  boot_open (by kernel_rfl) (by decide) (fun s => rfl)
theorem sizeT : ∀ w : World, ((boot_heap w.params).isNs mainGlobals && (Array.mk ([] : List GenState)).size == 0, (boot_heap w.params).objs.size, (boot_heap w.params).nsMap mainGlobals "__annotations__") = (true, 11, some (.ref 6)) := fun w => by
  kernel_rfl
noncomputable abbrev XT : Shared → Bool := fun s => xlAt QQ [] s && recOk (RowW.records Challenge.rw_tl0059_01.row.toRowW) s
theorem look1 (w : World) (os : OsState) : (staticsOk (importedModules PW.main.body) (boot_heap w.params) (H1 w.params) && namesBound PW (H1 w.params) && gensDone ⟨H1 w.params, ⟨[]⟩, {}, 2448, os⟩ && laidKept (boot_heap w.params) (H1 w.params)) = true := by
  kernel_rfl
theorem look2 (w : World) (os : OsState) : HK.obs ⟨H1 w.params, ⟨[]⟩, {}, 2448, os⟩ = HK.val w := by
  kernel_rfl
noncomputable abbrev SF (w : World) (os : OsState) : Shared := ⟨H1 w.params, ⟨[]⟩, {}, 2448, os⟩
noncomputable def ascInt : Int → List (PyData × PyData) → Bool
  | _, [] => true
  | lo, (.int k, _) :: D => decide (lo < k) && ascInt k D
  | _, _ :: _ => false
theorem asc_lt : ∀ {D : List (PyData × PyData)} {lo k : Int}, ascInt lo D = true → k ≤ lo → hasIntKey k D = false
  | [], _, _, _, _ => rfl
  | (.int j, d) :: D, lo, k, h, hk => by
    unfold ascInt at h
    rw [Bool.and_eq_true] at h
    have h1 := of_decide_eq_true h.1
    unfold hasIntKey
    rw [asc_lt h.2 (show k ≤ j by omega), Bool.or_false]
    exact beq_false_of_ne (by omega)
theorem apart_of_asc : ∀ {D : List (PyData × PyData)} {lo : Int}, ascInt lo D = true → keysApartInt D = true
  | [], _, _ => rfl
  | (.int j, d) :: D, lo, h => by
    unfold ascInt at h
    rw [Bool.and_eq_true] at h
    unfold keysApartInt
    rw [asc_lt h.2 (Int.le_refl _), apart_of_asc h.2]
    rfl
noncomputable def b3D : List (PyData × PyData) := b3L0.map fun x => (.int x.1, .str x.2)
theorem b3_apart : keysApartInt b3D = true := apart_of_asc (lo := 0) (by kernel_rfl)
theorem b3q_vals : valNames QQ = [Str.ofString "b1_set", Str.ofString "b3_exceptions"] := by kernel_rfl
theorem b3_tab : tabIntOf QQ (Str.ofString "b3_exceptions") = some b3D := by kernel_rfl
theorem b3_ok (w : World) (os : OsState) : (SF w os).heap.tabIntOk (Str.ofString "b3_exceptions") b3D = true := by
  unfold Heap.tabIntOk
  rw [b3_apart]
  kernel_rfl
theorem tabs_all (w : World) (os : OsState) : tablesOk QQ (SF w os).heap = true := by
  unfold tablesOk
  rw [b3q_vals, List.all_cons, List.all_cons, List.all_nil, b3_tab, Bool.and_true]
  dsimp only
  rw [b3_ok w os, Bool.and_true]
  kernel_rfl
theorem lk1 (w : World) (os : OsState) : seen ((recsOf QQ).map (·.name)) (ownsOf QQ) [] { SF w os with gens := #[] } = expectedOf QQ := by kernel_rfl
theorem lk2 (w : World) (os : OsState) : (SF w os).heap.bltView = bltViewBooted := by kernel_rfl
theorem lk3 (w : World) (os : OsState) : ((SF w os).heap.keysOk (looseW QQ LL) ((recsOf QQ).map (·.name)) ((litsOf QQ).map (·.1)) ((clssOf QQ (looseW QQ LL)).map (·.name)) && (SF w os).heap.accountedOkI (importedModules PW.main.body) && (SF w os).heap.isNs mainGlobals && (SF w os).heap.isNs builtinsNs && tablesOk QQ (SF w os).heap && XT (SF w os) && (if true then (SF w os).gens.size == 0 else !leftWithCleanup (SF w os).gens)) = true := by
  rw [tabs_all w os]
  kernel_rfl
theorem lk4 (w : World) (os : OsState) : tabsOk QQ (SF w os) = true := by kernel_rfl
theorem lk5 (w : World) (os : OsState) : pinSeenD QQ (drecsOf QQ) (SF w os) = pinGoodD (drecsOf QQ) := by kernel_rfl
theorem lk6 (w : World) (os : OsState) : plainSeenE QQ (looseW QQ LL) (SF w os) = plainGoodE QQ (looseW QQ LL) := by
  rw [PySem.W.Fast.te2386780881361962483, PySem.W.Fast.te821141287760084731]
  kernel_rfl
theorem lk7 (w : World) (os : OsState) : plainSeenD QQ LL (SF w os) = plainGoodD QQ LL := by kernel_rfl
theorem lk8 (w : World) (os : OsState) : wideSeen QQ (SF w os) = wideGood QQ := by kernel_rfl
theorem lk9 (w : World) (os : OsState) : clsSeenW QQ LL (SF w os) = clsGoodW QQ LL := by kernel_rfl
theorem look3 (w : World) (os : OsState) : openSeen QQ LL (importedModules PW.main.body) XT true ⟨H1 w.params, ⟨[]⟩, {}, 2448, os⟩ = openGood QQ LL := by
  unfold openSeen openGood
  refine looks_pair ?_ (looks_pair ?_ (looks_pair ?_ (looks_pair ?_ (looks_pair ?_ (looks_pair ?_ (looks_pair ?_ (looks_pair ?_ ?_)))))))
  · exact lk1 w os
  · exact lk2 w os
  · exact lk3 w os
  · exact lk4 w os
  · exact lk5 w os
  · exact lk6 w os
  · exact lk7 w os
  · exact lk8 w os
  · exact lk9 w os
theorem leftT : LeftO PW QQ LL XT HK.obs HK.val 40000 true := by
  refine LeftO.of_pieces (H₀ := boot_heap) (H₁ := H1) (gs₀ := Array.mk []) (gs₁ := ⟨[]⟩) (d₀ := boot_drawn) (d₁ := {}) (k₀ := boot_toks) (k₁ := 2448) (m₀ := 11) (ann := some (.ref 6)) (M := MM) openT sizeT (fun w os => runT w os) (by decide) (fun w => ?_)
  funext os
  rw [look1, look2, look3]
end Mine
-- MB
namespace Mine
open PySem PySem.W PyProof.Rows PySem.Spec PySem.Calls

/-- a claim of one def: what it answers, what it makes; the older things stay -/
noncomputable def MC (w : World) (p : Program) (loose : List Str) (mean : ExcName → Option Value) (mg mb : Str → Option Value)
    (lv : Nat) (f : Addr) (pre : List (Addr × Obj)) (vs : List Value) (R : Value → List (Addr × Obj) → Nat → Prop) : Prop :=
  ∀ (news : List (Addr × Obj)) (dp un : Nat) (gd : Option (List Code)) (cn : Str) (cs : Scope) (a : Addr) (ccd : Value) (cl : List (Str × Addr)) (outer : List Env) (A₀ : Around) (base h₀ : Heap) (L : Addr) (m : Str → Option Value) (s : Shared) (Q E : Value → Shared → Prop),
    Below A₀ base outer h₀ → Fr h₀ L s.heap m → (KK w.params).In h₀ → News h₀ L s.heap (pre ++ news) → Top p loose mean mg mb h₀ → cs.kind = .function →
    dp + 10 * lv + 10 < recursionLimit → un + 100 * lv + 100 < cLine →
    (∀ (v : Value) (own : List (Addr × Obj)) (h' : Heap) (tk' : Nat), R v own tk' → Fr h₀ L h' m → News h₀ L h' (own ++ (pre ++ news)) → Q v { s with heap := h', toks := tk' }) →
    wpAny (model Challenge.rw_tl0059_01.row.prog w) (ktrTop dp un gd cn cs L a ccd cl outer) (call (.ref f) vs) Q E s

/-- at a call: the claim is used -/
theorem mc_use {w : World} {p : Program} {loose : List Str} {mean : ExcName → Option Value} {mg mb : Str → Option Value} {lv : Nat} {f : Addr} {pre : List (Addr × Obj)} {vs : List Value} {R : Value → List (Addr × Obj) → Nat → Prop}
    {news : List (Addr × Obj)} {dp un : Nat} {gd : Option (List Code)} {cn : Str} {cs : Scope} {a : Addr} {ccd : Value} {cl : List (Str × Addr)} {outer : List Env} {A₀ : Around} {base h₀ : Heap} {L : Addr} {m : Str → Option Value} {s : Shared} {Q E : Value → Shared → Prop}
    (C : MC w p loose mean mg mb lv f pre vs R)
    (B : Below A₀ base outer h₀) (F : Fr h₀ L s.heap m) (X : (KK w.params).In h₀) (N : News h₀ L s.heap news) (T : Top p loose mean mg mb h₀) (hk : cs.kind = .function)
    (hs : ∀ p ∈ pre, p ∈ news) (hd : dp + 10 * lv + 10 < recursionLimit) (hu : un + 100 * lv + 100 < cLine)
    (ret : ∀ (v : Value) (own : List (Addr × Obj)) (h' : Heap) (tk' : Nat), s.toks ≤ tk' → R v own tk' → Fr h₀ L h' m → News h₀ L h' (own ++ news) → Q v { s with heap := h', toks := tk' }) :
    wpAny (model Challenge.rw_tl0059_01.row.prog w) (ktrTop dp un gd cn cs L a ccd cl outer) (call (.ref f) vs) Q E s := by
  have h := C news dp un gd cn cs a ccd cl outer A₀ base h₀ L m s (fun v s' => s.toks ≤ s'.toks → Q v s') E B F X (fun p hp => N p ((List.mem_append.mp hp).elim (hs p) id)) T hk hd hu
    fun v own h' tk' hr F' N' hle => ret v own h' tk' hle hr F' fun p hp => N' p ((List.mem_append.mp hp).elim (fun h => List.mem_append.mpr (.inl h)) fun h => List.mem_append.mpr (.inr (List.mem_append.mpr (.inr h))))
  exact wpAny_mono (wpAny_toks_of (Nat.le_refl _) h) (fun v s' x => x.2 x.1) fun _ _ x => x.2

/-- a claim of a def that makes nothing that stays: an int, a bool, a text -/
noncomputable abbrev MCV (w : World) (p : Program) (loose : List Str) (mean : ExcName → Option Value) (mg mb : Str → Option Value) (lv : Nat) (f : Addr) (pre : List (Addr × Obj)) (vs : List Value) (val : Tok → Value) : Prop :=
  MC w p loose mean mg mb lv f pre vs (fun v own _ => own = [] ∧ ∃ t, v = val t)
theorem mcv_use {w : World} {p : Program} {loose : List Str} {mean : ExcName → Option Value} {mg mb : Str → Option Value} {lv : Nat} {f : Addr} {pre : List (Addr × Obj)} {vs : List Value} {val : Tok → Value}
    {news : List (Addr × Obj)} {dp un : Nat} {gd : Option (List Code)} {cn : Str} {cs : Scope} {a : Addr} {ccd : Value} {cl : List (Str × Addr)} {outer : List Env} {A₀ : Around} {base h₀ : Heap} {L : Addr} {m : Str → Option Value} {s : Shared} {Q E : Value → Shared → Prop}
    (C : MCV w p loose mean mg mb lv f pre vs val)
    (B : Below A₀ base outer h₀) (F : Fr h₀ L s.heap m) (X : (KK w.params).In h₀) (N : News h₀ L s.heap news) (T : Top p loose mean mg mb h₀) (hk : cs.kind = .function)
    (hs : ∀ p ∈ pre, p ∈ news) (hd : dp + 10 * lv + 10 < recursionLimit) (hu : un + 100 * lv + 100 < cLine)
    (ret : ∀ (t : Tok) (h' : Heap) (tk' : Nat), Fr h₀ L h' m → News h₀ L h' news → Q (val t) { s with heap := h', toks := tk' }) :
    wpAny (model Challenge.rw_tl0059_01.row.prog w) (ktrTop dp un gd cn cs L a ccd cl outer) (call (.ref f) vs) Q E s :=
  mc_use C B F X N T hk hs hd hu fun v own h' tk' _ hr F' N' => by
    obtain ⟨rfl, t, rfl⟩ := hr
    exact ret t h' tk' F' N'

theorem news_sub {h₀ h : Heap} {L : Addr} {a b : List (Addr × Obj)} (N : News h₀ L h b) (hs : ∀ p ∈ a, p ∈ b) : News h₀ L h a := fun p hp => N p (hs p hp)

section
variable {prog : Program} {w : World} {A : Around} {E : Value → Shared → Prop} {s : Shared} {h₀ : Heap} {L : Addr} {m : Str → Option Value} {news : List (Addr × Obj)}

theorem k_hasattr {x : Str} {u tk : Tok} {Q : Value → Shared → Prop} (F : Fr h₀ L s.heap m) (N : News h₀ L s.heap news)
    (h : ∀ h', Fr h₀ L h' m → News h₀ L h' news → Q (.bool true) { s with heap := h' }) :
    wpAny (model prog w) A (call (.builtin "hasattr") [.str x u, .str (Str.ofString "__getitem__") tk]) Q E s := by
  obtain ⟨hp, g, d, t, os⟩ := s
  exact hasattr_gi (h _ (F.push _) fun p hp => ⟨Heap.get?_push_of_some _ (N p hp).1, (N p hp).2⟩)
end

/-- the fragment's objects are read into the tactics' notes -/
theorem fill : (KK = KK) ∧ Challenge.rw_tl0059_01 = Challenge.rw_tl0059_01 := by
  k_fill
  exact ⟨rfl, rfl⟩
end Mine
-- MK
namespace Mine
open PySem PySem.W PyProof.Rows PySem.Spec PySem.Calls

noncomputable def P0 : Params := { strHash := fun _ => 0, shareClass := fun _ => 0, mergeTok := id, idOf := fun _ => 0, idOfShared := fun _ _ => 0, followText := fun _ => false, idOfImm := fun _ => 0 }
noncomputable def b1L : List (Int × Value) := match (h_152 P0).data with | .set es _ _ => es.toList | _ => []
noncomputable def b1S (k : Int) : Bool := b1L.any fun e => e.2.isInt k

theorem b1_elems (prog : Program) (w : World) : ElemsOf (intKind prog w) b1L := by
  have h : b1L.all (fun e => (match e.2 with | .int k _ => e.1 == hashInt k | _ => false) && e.2.scannable) = true := by decide +kernel
  intro e he
  have h1 := List.all_eq_true.mp h e he
  obtain ⟨h2, h3⟩ := Bool.and_eq_true_iff.mp h1
  refine ⟨?_, h3⟩
  obtain ⟨e1, e2⟩ := e
  cases e2 <;> simp only [Bool.false_eq_true] at h2
  rename_i k t
  exact ⟨k, intKind_is prog w k t, beq_iff_eq.mp h2⟩

theorem b1_set {prog : Program} {w : World} {h : Heap} (X : (KK w.params).In h) : h.SetOf (intKind prog w) 152 b1S 27 := by
  have hg : h.get? 152 = some (h_152 w.params) := X 152 _ (by rfl)
  refine ⟨_, b1L.toArray, _, _, hg, ⟨rfl, rfl, rfl⟩, rfl, b1_elems prog w, fun k => ?_, ?_, ?_, ?_⟩
  · show b1L.any (fun e => e.2.isInt k) = true ↔ _
    rw [List.any_eq_true]; exact Iff.rfl
  · decide +kernel
  · rfl
  · decide +kernel

noncomputable def b3L : List DictEntry := match (h_163 P0).data with | .dict es _ => es.toList | _ => []
noncomputable def b3kv : List (Int × Value) := b3L.map fun e => ((match e.key with | .int k _ => k | _ => 0), e.val)
noncomputable def b3v (k : Int) : Option Str := match valueAt b3kv k with | some (.str x _) => some x | _ => none

noncomputable def pairLt : List Int → Bool
  | a :: b :: l => decide (a < b) && pairLt (b :: l)
  | _ => true
theorem pairLt_iff : ∀ {l : List Int}, pairLt l = true → l.Pairwise (· < ·)
  | [], _ => .nil
  | [a], _ => .cons (fun _ h => nomatch h) .nil
  | a :: b :: l, h => by
    obtain ⟨h1, h2⟩ := Bool.and_eq_true_iff.mp h
    have ih := pairLt_iff h2
    refine .cons (fun c hc => ?_) ih
    have h1 := of_decide_eq_true h1
    rcases List.mem_cons.mp hc with rfl | hc
    · exact h1
    · exact Int.lt_trans h1 ((List.pairwise_cons.mp ih).1 c hc)
theorem b3_dict {prog : Program} {w : World} {h : Heap} (X : (KK w.params).In h) : h.DictOf (intKind prog w) 163 b3kv := by
  have hg : h.get? 163 = some (h_163 w.params) := X 163 _ (by rfl)
  have hk : b3L.all (fun e => match e.key with | .int k _ => e.hash == hashInt k | _ => false) = true := by decide +kernel
  have hf : ∀ e ∈ b3L, ∃ k t, e.key = .int k t ∧ e.hash = hashInt k := by
    intro e he
    have h1 := List.all_eq_true.mp hk e he
    obtain ⟨e1, e2, e3⟩ := e
    cases e2 <;> simp only [Bool.false_eq_true] at h1
    rename_i k t
    exact ⟨k, t, rfl, beq_iff_eq.mp h1⟩
  have hn : (b3kv.map (·.1)).Pairwise (· < ·) := by
    have : pairLt (b3kv.map (·.1)) = true := by decide +kernel
    exact pairLt_iff this
  refine ⟨_, b3L.toArray, _, hg, ⟨rfl, rfl, rfl⟩, rfl, ?_, ?_, ?_⟩
  · intro e he
    obtain ⟨k, t, h1, h2⟩ := hf e (by simpa using he)
    exact ⟨k, by rw [h1]; exact intKind_is prog w k t, h2⟩
  · show Pairs (intKind prog w) b3L b3kv
    unfold b3kv
    generalize b3L = l at hf
    induction l with
    | nil => exact .nil
    | cons e l ih =>
      refine .cons ?_ rfl (ih fun e' h' => hf e' (.tail _ h'))
      obtain ⟨k, t, h1, _⟩ := hf e (.head _)
      dsimp only
      rw [h1]; exact intKind_is prog w k t
  · exact hn.imp (fun h => Int.ne_of_lt h)

theorem b3_vals : ∀ k v, valueAt b3kv k = some v → ∃ x t, v = .str x t := by
  have hk : b3kv.all (fun e => match e.2 with | .str _ _ => true | _ => false) = true := by decide +kernel
  intro k v hv
  unfold valueAt at hv
  obtain ⟨e, he, rfl⟩ := Option.map_eq_some_iff.mp hv
  have h1 := List.all_eq_true.mp hk e (List.mem_of_find?_eq_some he)
  obtain ⟨e1, e2⟩ := e
  cases e2 <;> simp only [Bool.false_eq_true] at h1
  exact ⟨_, _, rfl⟩

section
variable {prog : Program} {w : World} {A : Around} {E : Value → Shared → Prop} {s : Shared} {h₀ : Heap} {L : Addr} {m : Str → Option Value} {news : List (Addr × Obj)}

theorem k_inb1 {i : Int} {t : Tok} {Q : Value → Shared → Prop} (F : Fr h₀ L s.heap m) (X : (KK w.params).In h₀) (h : Q (.bool (b1S i)) { s with toks := s.toks + 1 }) :
    wpAny (model prog w) A (compareOp .In (.int i t) (.ref 152)) Q E s :=
  wpAny_inSet_of (knd := intKind prog w) (intKind_is prog w i t) rfl (b1_set (X.keeps F.keep)) h

theorem k_b3get {pl : Sem Bool} {Q : Value × List Value → Shared → Prop} (F : Fr h₀ L s.heap m) (X : (KK w.params).In h₀) (h : Q (.builtin "dict.get", [.ref 163]) s) :
    wpAny (model prog w) A (getMethod (.ref 163) "get" pl) Q E s := by
  have hd := b3_dict (prog := prog) (X.keeps F.keep)
  exact getMethod_builtin hd.typeIs PySem.F.plainAttrs_dict PySem.F.slot_dict_get PySem.F.type_dict_get hd.mapOf.noDict h

theorem k_b3call {i : Int} {t : Tok} {Q : Value → Shared → Prop} (F : Fr h₀ L s.heap m) (X : (KK w.params).In h₀)
    (h0 : b3v i = none → Q .none { s with toks := s.toks + 1 }) (h1 : ∀ x u, b3v i = some x → Q (.str x u) { s with toks := s.toks + 1 }) :
    wpAny (model prog w) A (call (.builtin "dict.get") [.ref 163, .int i t]) Q E s := by
  have hd := b3_dict (prog := prog) (X.keeps F.keep)
  refine call_meetsIn PySem.F.slot_dict_get hd.typeIs PySem.F.entry_dict_get (PySem.F.args_dict_get_2 _ _) (meets_dict_get (intKind prog w) 163 (intKind_is prog w i t) rfl) ⟨_, hd.mapOf, ?_⟩
  cases hv : valueAt b3kv i with
  | none => exact h0 (by unfold b3v; rw [hv])
  | some v =>
    obtain ⟨x, u, rfl⟩ := b3_vals _ _ hv
    exact h1 x u (by unfold b3v; rw [hv])
end
end Mine
namespace Mine
open PySem PySem.W PyProof.Rows PySem.Spec PySem.Calls
section
variable {prog : Program} {w : World} {A : Around} {E : Value → Shared → Prop} {s : Shared} {env : Env} {h₀ : Heap} {body : List Stmt} {Q : Flow → Shared → Prop}
theorem For_listK2 {x : Str} {px pos : Pos} {iter : Expr} {m : Str → Option Value} (F : Fr h₀ env.locals s.heap m)
    (h : wpAny (model prog w) A (eval iter env) (fun xv s₁ => Stop (s.toks ≤ s₁.toks → KLoop prog w A h₀ env x px body Q E xv s₁)) E s)
    (hs : ∀ x, foldedSetIterable iter env x = pure x := by intro _; rfl)
    (hE : PassesOwn (model prog w) A env E := by passes_own) :
    wpAny (model prog w) A (exec (.For (.Name x px) iter body [] pos) env) Q E s :=
  For_listK F (wpAny_mono (wpAny_toks_of (Nat.le_refl _) h) (fun _ _ x => Stop.go (x.2.out x.1)) fun _ _ x => x.2) hs hE
end
section
variable {prog : Program} {w : World} {A : Around} {E : Value → Shared → Prop} {s : Shared} {h₀ : Heap} {L : Addr} {m : Str → Option Value} {env : Env}
theorem Assign_ListComp_tok2 {elt iter : Expr} {x y : Str} {px py : Pos} {scope : Scope} {cl : List (Str × Addr)} {pos spos : Pos} {Q : Flow → Shared → Prop} (F₀ : Fr h₀ L s.heap m) (hLe : env.locals = L)
    (hsw : swapsWith (.ListComp elt [⟨.Name x px, iter, [], 0⟩] scope pos) (some (.Name y py)) spos.line env = pure true)
    (hclos : closureFor scope env = pure cl) (hcell : ∀ z ∈ scope.names, z.2 ≠ .cell) (hkind : scope.kind = .function)
    (hnames : ∀ z ∈ scope.names, z.2 = .local → scope.names.lookup z.1 = some .local) (hx : scope.names.lookup x = some .local)
    (hy : env.kindOf y = some .local) (hp : (env.scope.kind == .class || (env.scope.kind == .module && env.locals != env.globals)) = false)
    (h : wpAny (model prog w) A (eval iter env) (fun xv s₁ => Stop (s.toks ≤ s₁.toks → TokSrcA prog w A h₀ L m env elt x scope cl y Q xv s₁)) E s)
    (hs : ∀ x, foldedSetIterable iter env x = pure x := by intro _; rfl) :
    wpAny (model prog w) A (exec (.Assign [.Name y py] (.ListComp elt [⟨.Name x px, iter, [], 0⟩] scope pos) spos) env) Q E s :=
  Assign_ListComp_tok F₀ hLe hsw hclos hcell hkind hnames hx hy hp (wpAny_mono (wpAny_toks_of (Nat.le_refl _) h) (fun _ _ x => x.2.out x.1) fun _ _ x => x.2) hs
end
section
variable {M : Model} {A : Around} {E : Value → Shared → Prop} {s : Shared} {env : Env} {Q : Flow → Shared → Prop} {r : List Stmt} {c d e : Nat}
theorem stAssign (l : Nat) {a : List Expr} {b : Expr} (h : Stop (wpAny M A (execs (.Assign a b (Pos.mk l c d e) :: r) env) Q E s)) : wpAny M A (execs (.Assign a b (Pos.mk l c d e) :: r) env) Q E s := h.out
theorem stIf (l : Nat) {a : Expr} {b f : List Stmt} (h : Stop (wpAny M A (execs (.If a b f (Pos.mk l c d e) :: r) env) Q E s)) : wpAny M A (execs (.If a b f (Pos.mk l c d e) :: r) env) Q E s := h.out
theorem stFor (l : Nat) {a b : Expr} {f k : List Stmt} (h : Stop (wpAny M A (execs (.For a b f k (Pos.mk l c d e) :: r) env) Q E s)) : wpAny M A (execs (.For a b f k (Pos.mk l c d e) :: r) env) Q E s := h.out
end
end Mine
namespace Mine
open PySem PySem.W PyProof.Rows PySem.Spec PySem.Calls
local macro_rules | `(tactic| walk_at "call builtin:hasattr") => `(tactic| (k_here; k_dflt (refine' k_hasattr ?k1 ?k2 ?_; (case k1 => k_asm); (case k2 => k_asm); k_whole; intro h' F' N'; (try k_sweep))))
local macro_rules | `(tactic| walk_at "compareOp In") => `(tactic| (k_here; (with_reducible show wpAny _ _ (compareOp CmpOp.In (Value.int _ _) (Value.ref _)) _ _ _); k_dflt (refine' k_inb1 ?k1 ?k2 ?_; (case k1 => k_asm); (case k2 => k_asm); k_whole)))
local macro_rules | `(tactic| walk_at "exec For") => `(tactic| (k_here; (with_reducible rename Fr _ _ _ _ => lF'); (with_unfolding_all refine' my_For lF' ?k1 ?k2 ?_; (case k1 => exact rfl); (case k2 => exact rfl); k_whole)))
local macro_rules | `(tactic| walk_at "exec For Name Name cons nil") => `(tactic| (k_here; (with_reducible rename Fr _ _ _ _ => lF'); (with_unfolding_all refine' my_For lF' ?k1 ?k2 ?_; (case k1 => exact rfl); (case k2 => exact rfl); k_whole)))
local macro_rules | `(tactic| walk_at "exec For Tuple Call cons nil") => `(tactic| (k_here; (with_reducible rename Fr _ _ _ _ => lF'); (with_unfolding_all refine' my_ForE lF' ?k0 ?k1 ?k2 ?k3 ?_; (case k0 => exact rfl); (case k1 => exact rfl); (case k2 => exact rfl); (case k3 => exact rfl); k_whole)))
local macro_rules | `(tactic| walk_at "LPost") => `(tactic| (dsimp only [LPost]))
local macro_rules | `(tactic| walk_at "PPost") => `(tactic| (dsimp only [PPost]))
local macro_rules | `(tactic| walk_at "MYENTER") => `(tactic| (
  refine wpAny_call ?_
  k_dflt refine' code_def ?k1 ?k2 ?k3 ?k4 ?k5 ?kA ?kF ?kK ?k6 ?k7 ?k8 ?k9 ?kB ?_ ?c2 ?c3 ?c4 ?c5
  (case kA => exact rfl)
  (case kF => exact rfl)
  (case kK => assumption)
  (case k1 => k_asm)
  (case k2 => k_asm)
  (case k3 => k_asm)
  (case k4 => k_asm)
  (case k5 => k_asm)
  (case k6 => k_is)
  (case k7 => k_is)
  (case k8 => ktr_room)
  (case k9 => k_dflt first | exact BindsTo.of_eq rfl | exact binds_K (by k_in) rfl (by k_is) rfl rfl rfl)
  (case c5 => decide)
  (case kB => exact locs rfl)
  (case c2 => exact rfl)
  (case c3 => exact rfl)
  (case c4 => exact rfl)
  k_whole
  intro g' L' h' FG' F' N' B' X' T'
  (try dsimp only)
  (try k_lift B')
  (try k_fold)))
local macro_rules | `(tactic| walk_at "MCARGS") => `(tactic| (
  (case k1 => k_asm)
  (case k2 => k_asm)
  (case k3 => k_asm)
  (case k4 => k_asm)
  (case k5 => k_asm)
  (case k6 => first | exact rfl | assumption)
  (case k8 => ktr_room)
  (case k9 => ktr_units)
  k_whole
  intro t h' tk' F' N'
  (try dsimp only)
  (try k_sweep)
  (try k_fold)))
local macro_rules | `(tactic| walk_at "exec For Tuple Call cons cons") => `(tactic| (k_here; (with_reducible rename Fr _ _ _ _ => lF'); (with_unfolding_all refine' my_ForElse lF' ?_; k_whole)))
local macro_rules | `(tactic| walk_at "call type:enumerate") => `(tactic| (k_here; k_dflt (refine' k_enum (News.isList ?kN ?kL) ?k1 ?k2 ?_; (case kN => k_asm); (case kL => k_mem); (case k1 => k_asm); (case k2 => k_asm); k_whole; intro h' it' he' hit' hlt' hLi' hli' F' N'; (try k_sweep))))
local macro_rules | `(tactic| walk_at "execs cons") => `(tactic| (k_here; (with_reducible refine wpAny_execs_cons ?_); try dsimp only))
local macro_rules | `(tactic| k_all) => `(tactic| first | assumption | exact List.forall_mem_nil _ | (refine' List.forall_mem_cons.mpr ⟨?a, ?b⟩; (case a => k_ne); (case b => k_all)))
local macro_rules | `(tactic| walk_at "exec For Name Call cons nil") => `(tactic| (k_here; (with_reducible rename Fr _ _ _ _ => lF'); (with_unfolding_all refine' my_For lF' ?k1 ?k2 ?_; (case k1 => exact rfl); (case k2 => exact rfl); k_whole)))
section S_MC1
theorem fill1 : (KK = KK) ∧ Challenge.rw_tl0059_01 = Challenge.rw_tl0059_01 := by
  w_top off
  k_fill
  exact ⟨rfl, rfl⟩
local macro_rules | `(tactic| walk_at "getMethod ref") => `(tactic| (k_here; k_dflt (refine' k_b3get ?k1 ?k2 ?_; (case k1 => k_asm); (case k2 => k_asm); k_whole)))
local macro_rules | `(tactic| walk_at "call builtin:dict.get") => `(tactic| (k_here; k_dflt (refine' k_b3call ?k1 ?k2 ?_ ?_; (case k1 => k_asm); (case k2 => k_asm); k_whole; all_goals (intros))))
local macro_rules | `(tactic| walk_at "call builtin:str.lower") => `(tactic| (k_here; (try dsimp only); (show wpAny _ _ (call (Value.builtin "str.lower") [Value.str ⟨#[_]⟩ _]) _ _ _); refine SCL.lower (Nat.le_of_ble_eq_true rfl) ?_; intro _))
local macro_rules | `(tactic| walk_at "MCIN0") => `(tactic| (
  unfold MCV MC
  intro news dp un gd cn cs a0 ccd cl outer A₀ base h₀ L m s Q E B F X N T hk hd hu hret
  refine wpAny_call ?_
  k_dflt cell_enter
  k_steps))
local macro_rules | `(tactic| walk_at "MCOUT") => `(tactic| (
  all_goals (try (refine hret _ [] _ _ ?_ (by with_reducible assumption) (by assumption)))))
local macro_rules | `(tactic| walk_at "MCIN") => `(tactic| (
  unfold MCV MC
  intro news dp un gd cn cs a0 ccd cl outer A₀ base h₀ L m s Q E B F X N T hk hd hu hret
  refine wpAny_call ?_
  k_dflt cell_enter
  k_steps
  all_goals (try (refine hret _ [] _ _ ?_ (by with_reducible assumption) (by assumption)))))
section
variable {w : World} {p : Program} {loose : List Str} {mean : ExcName → Option Value} {mg mb : Str → Option Value}
set_option maxHeartbeats 4000000
theorem mc_concat (a b : Str) (ta tb : Tok) (hsz : a.length + b.length ≤ 1000000) :
    MCV w p loose mean mg mb 0 122 [] [.str a ta, .str b tb] (fun t => .str (a ++ b) t) := by
  walk_at "MCIN"
  exact ⟨rfl, _, rfl⟩
theorem mc_or (a b : Int) (ta tb : Tok) : MCV w p loose mean mg mb 0 108 [] [.int a ta, .int b tb] (fun t => .int (Builtin.bitOr a b) t) := by
  walk_at "MCIN"
  exact ⟨rfl, _, rfl⟩
theorem mc_and (a b : Int) (ta tb : Tok) : MCV w p loose mean mg mb 0 94 [] [.int a ta, .int b tb] (fun t => .int (Builtin.bitAnd a b) t) := by
  walk_at "MCIN"
  all_goals exact ⟨rfl, _, rfl⟩
theorem mc_inb1 (c : Nat) (tc : Tok) : MCV w p loose mean mg mb 0 162 [] [.str ⟨#[c]⟩ tc] (fun _ => .bool (b1S c)) := by
  walk_at "MCIN"
  exact ⟨rfl, 0, rfl⟩
noncomputable def b3F (c : Nat) : Str := match b3v c with | some x => x | none => Txt.lower ⟨#[c]⟩
theorem mc_b3 (c : Nat) (tc : Tok) : MCV w p loose mean mg mb 0 208 [] [.str ⟨#[c]⟩ tc] (fun t => .str (b3F c) t) := by
  walk_at "MCIN"
  all_goals (unfold b3F; simp_all)
noncomputable def prepF (pre : List Nat) : Str := pre.foldl (fun acc (c : Nat) => if b1S (c : Int) then acc else acc ++ b3F c) ""
local macro_rules | `(tactic| walk_at "call ref") => `(tactic| (
  k_here
  k_dflt (first | refine' mcv_use (mc_inb1 _ _) ?k1 ?k2 ?k3 ?k4 ?k5 ?k6 ?k7 ?k8 ?k9 ?_ | refine' mcv_use (mc_b3 _ _) ?k1 ?k2 ?k3 ?k4 ?k5 ?k6 ?k7 ?k8 ?k9 ?_)
  (case k1 => k_asm)
  (case k2 => k_asm)
  (case k3 => k_asm)
  (case k4 => k_asm)
  (case k5 => k_asm)
  (case k6 => first | exact rfl | assumption)
  (case k7 => intro p hp; cases hp)
  (case k8 => ktr_room)
  (case k9 => ktr_units)
  k_whole
  intro t h' tk' F' N'
  (try dsimp only)
  (try k_sweep)
  (try k_fold)))
theorem prepF_snoc (l : List Nat) (c : Nat) : prepF (l ++ [c]) = if b1S (c : Int) = true then prepF l else prepF l ++ b3F c := by
  unfold prepF; simp only [List.foldl_append, List.foldl_cons, List.foldl_nil]
theorem b3v_len (k : Int) (x : Str) (h : b3v k = some x) : x.length ≤ 4 := by
  have hk : b3kv.all (fun e => match e.2 with | .str x _ => decide (x.length ≤ 4) | _ => false) = true := by decide +kernel
  unfold b3v valueAt at h
  cases hf : b3kv.find? (fun kv => kv.1 = k) with
  | none => rw [hf] at h; cases h
  | some e =>
    rw [hf] at h
    have h1 := List.all_eq_true.mp hk e (List.mem_of_find?_eq_some hf)
    obtain ⟨e1, e2⟩ := e
    cases e2 <;> simp at h h1
    subst h; exact h1
theorem b3F_len (c : Nat) : (b3F c).length ≤ 4 := by
  unfold b3F
  cases h : b3v c with
  | none => exact Nat.le_trans (len_lower _) (by show 3 * 1 ≤ 4; decide)
  | some x => exact b3v_len c x h
theorem prepF_len (l : List Nat) : (prepF l).length ≤ 4 * l.length := by
  suffices ∀ (l : List Nat) (a : Str), (l.foldl (fun acc (c : Nat) => if b1S (c : Int) then acc else acc ++ b3F c) a).length ≤ a.length + 4 * l.length by
    have := this l ""; rw [show ("" : Str).length = 0 from rfl, Nat.zero_add] at this; exact this
  intro l
  induction l with
  | nil => intro a; simp
  | cons c l ih =>
    intro a
    rw [List.foldl_cons]
    refine Nat.le_trans (ih _) ?_
    have h1 := b3F_len c
    split
    · simp only [List.length_cons]; omega
    · simp only [List.length_cons, Str.length_append]; omega
theorem take_snoc {l : Array Nat} {i c : Nat} (h : l[i]? = some c) : l.toList.take (i + 1) = l.toList.take i ++ [c] := by
  rw [List.take_add_one]; simp [h]
theorem mc_prep (x : Str) (tx : Tok) (hx : x.length ≤ 100) : MCV w p loose mean mg mb 1 222 [] [.str x tx] (fun t => .str (prepF x.cps.toList) t) := by
  w_top off
  unfold MCV MC
  intro news dp un gd cn cs a0 ccd cl outer A₀ base h₀ L m s Q E B F X N T hk hd hu hret
  refine wpAny_call ?_
  k_dflt cell_enter
  k_steps
  refine Stop.go ?_
  (with_reducible rename Fr _ _ _ _ => F')
  (with_reducible rename News _ _ _ _ => N')
  refine text_loop (fun i m nx => nx = news ∧ ∃ t, m (Str.ofString "told") = some (.str (prepF (x.cps.toList.take i)) t)) rfl F' N' ⟨rfl, _, rfl⟩ ?_ ?_
  · rintro I i c t m₁ news₁ h tk own hI hc ⟨rfl, t₁, ht⟩ hnI ⟨o, hIo⟩ F₁ N₁
    replace F₁ := fr_pin F₁ (x := Str.ofString "told") (by exact ht)
    have hl1 := b3F_len c
    have hl2 : (prepF (x.cps.toList.take i)).length ≤ 400 := by
      refine Nat.le_trans (prepF_len _) ?_
      have : (x.cps.toList.take i).length ≤ x.length := by rw [List.length_take, Array.length_toList]; exact Nat.min_le_right _ _
      omega
    have hsn := take_snoc hc
    k_steps
    · have hb : b1S (c : Int) = false := eq_of_beq (by assumption)
      refine LEnd.intro (by assumption) (by assumption) (fun p hp => hp) hnI ?_
      dsimp only
      rw [hsn, prepF_snoc, hb]
      exact ⟨rfl, _, rfl⟩
    · exfalso
      have h8 : (b1S (c : Int) == false) = false := by assumption
      have h9 : (b1S (c : Int) != true) = true := by assumption
      revert h8 h9
      cases b1S (c : Int) <;> decide
    · have hb : b1S (c : Int) = true := by
        have h8 : (b1S (c : Int) == false) = false := by assumption
        revert h8
        cases b1S (c : Int) <;> decide
      refine LEnd.intro (by assumption) (by assumption) (fun p hp => hp) hnI ?_
      dsimp only
      rw [hsn, prepF_snoc, hb]
      exact ⟨rfl, _, rfl⟩
  · rintro m₁ news₁ h tk ⟨rfl, t₁, ht⟩ F₁ N₁
    replace F₁ := fr_pin F₁ ht
    k_steps
    refine hret _ [] _ _ ⟨rfl, t₁, ?_⟩ (by with_reducible assumption) (by assumption)
    rw [List.take_of_length_le (by simp)]
end
end S_MC1
section S_MC2
noncomputable def chrOk (i : Int) : Prop := 0 ≤ i ∧ i ≤ 1114111
theorem k_chr {prog : Program} {w : World} {A : Around} {E : Value → Shared → Prop} {s : Shared} {i : Int} {t : Tok} {Q : Value → Shared → Prop} (hi : chrOk i) (h : Q (.str ⟨#[i.toNat]⟩ s.toks) { s with toks := s.toks + 1 }) :
    wpAny (model prog w) A (call (.builtin "chr") [.int i t]) Q E s := by
  refine P.chr_of_int ?_ h
  obtain ⟨h0, h1⟩ := hi
  rw [decide_eq_false (by omega), decide_eq_false (by omega)]; rfl
noncomputable def U27 : List Int := [173, 847, 6150, 6155, 6156, 6157, 8203, 8204, 8205, 8288, 65279, 65024, 65025, 65026, 65027, 65028, 65029, 65030, 65031, 65032, 65033, 65034, 65035, 65036, 65037, 65038, 65039]
theorem getD_all {l : List Int} {P : Int → Prop} {d : Int} (hd : P d) (h : ∀ x ∈ l, P x) (k : Nat) : P (l.getD k d) := by
  rw [List.getD_eq_getElem?_getD]
  cases hk : l[k]? with
  | none => exact hd
  | some x => exact h x (List.mem_of_getElem? hk)
theorem chrOk_U (k : Nat) : chrOk (U27.getD k 0) := getD_all (P := fun i => 0 ≤ i ∧ i ≤ 1114111) (by decide) (by decide) k
theorem fm (x : Int) (n : Int) (h : 0 < n) : 0 ≤ x.fmod n ∧ x.fmod n < n := ⟨Int.fmod_nonneg_of_pos _ h, Int.fmod_lt_of_pos _ h⟩
theorem chrOk_6 (x : Int) (k : Nat) : chrOk ([13261, 223, 64261 + x.fmod 2, 64259, 8481, 13273].getD k 0) := by
  have h := fm x 2 (by decide)
  refine getD_all (P := chrOk) (by unfold chrOk; decide) (fun y hy => ?_) k
  simp only [List.mem_cons, List.not_mem_nil, or_false] at hy
  unfold chrOk
  rcases hy with rfl | rfl | rfl | rfl | rfl | rfl <;> omega
theorem m3 (k : Nat) : 0 ≤ [(10 : Int), 18, 19].getD k 0 ∧ [(10 : Int), 18, 19].getD k 0 ≤ 19 :=
  getD_all (P := fun y => 0 ≤ y ∧ y ≤ 19) (by decide) (by decide) k
theorem chrOk_A (x : Int) (k : Nat) : chrOk (119808 + 52 * x.fmod 15 + [10, 18, 19].getD k 0) := by
  have h := fm x 15 (by decide)
  have h2 := m3 k
  unfold chrOk; omega
theorem chrOk_B (x : Int) (k : Nat) (hx : ¬ x.fmod 15 < 13) : chrOk (65 + 32 * (x.fmod 15 - 13) + [10, 18, 19].getD k 0) := by
  have h := fm x 15 (by decide)
  have h2 := m3 k
  unfold chrOk; omega
noncomputable def hidF (sp : Int) (i : Nat) : Int := (sp.fdiv 15 + 5 * (i : Int)).fmod 29
noncomputable def formF (sp : Int) (i : Nat) : Int := (sp + (i : Int)).fmod 15
noncomputable def codeF (sp : Int) (i : Nat) (kd : Int) : Int :=
  if kd > 2 then [13261, 223, 64261 + (formF sp i).fmod 2, 64259, 8481, 13273].getD (kd - 3).toNat 0
  else if formF sp i < 13 then 119808 + 52 * formF sp i + [10, 18, 19].getD kd.toNat 0
  else 65 + 32 * (formF sp i - 13) + [10, 18, 19].getD kd.toNat 0
noncomputable def signsF (sp : Int) (i : Nat) (kd : Int) : List Nat := (if hidF sp i < 27 then [(U27.getD (hidF sp i).toNat 0).toNat] else []) ++ [(codeF sp i kd).toNat]
noncomputable def typedN (sp : Int) (ks : List Int) (n : Nat) : List Nat := (List.range n).flatMap fun j => signsF sp j (ks.getD j 0)
theorem typedN_succ (sp : Int) (ks : List Int) (n : Nat) : typedN sp ks (n + 1) = typedN sp ks n ++ signsF sp n (ks.getD n 0) := by
  unfold typedN; rw [List.range_succ, List.flatMap_append]; simp
theorem typedN_len (sp : Int) (ks : List Int) (n : Nat) : (typedN sp ks n).length ≤ 2 * n := by
  induction n with
  | zero => simp [typedN]
  | succ n ih =>
    rw [typedN_succ, List.length_append]
    have : (signsF sp n (ks.getD n 0)).length ≤ 2 := by unfold signsF; split <;> simp
    omega
noncomputable def mkS (l : List Nat) : Str := ⟨l.toArray⟩
theorem mkS_snoc (l : List Nat) (c : Nat) : mkS l ++ (⟨#[c]⟩ : Str) = mkS (l ++ [c]) := by
  refine Str.ext' ?_
  rw [Str.cps_append]
  unfold mkS
  simp
theorem mkS_len (l : List Nat) : (mkS l).length = l.length := by unfold mkS Str.length; simp
theorem code1 {sp : Int} {i : Nat} {kd : Int} (h : kd > 2) : codeF sp i kd = [13261, 223, 64261 + ((sp + (i : Int)).fmod 15).fmod 2, 64259, 8481, 13273].getD (kd - 3).toNat 0 := by unfold codeF formF; rw [if_pos h]
theorem code2 {sp : Int} {i : Nat} {kd : Int} (h : ¬ kd > 2) (h2 : (sp + (i : Int)).fmod 15 < 13) : codeF sp i kd = 119808 + 52 * (sp + (i : Int)).fmod 15 + [10, 18, 19].getD kd.toNat 0 := by unfold codeF formF; rw [if_neg h, if_pos h2]
theorem code3 {sp : Int} {i : Nat} {kd : Int} (h : ¬ kd > 2) (h2 : ¬ (sp + (i : Int)).fmod 15 < 13) : codeF sp i kd = 65 + 32 * ((sp + (i : Int)).fmod 15 - 13) + [10, 18, 19].getD kd.toNat 0 := by unfold codeF formF; rw [if_neg h, if_neg h2]
theorem step1 {sp : Int} {i : Nat} {kd c : Int} {ks : List Int} (hk : ks[i]? = some kd) (hh : (sp.fdiv 15 + 5 * (i : Int)).fmod 29 < 27) (hc : codeF sp i kd = c) :
    mkS (typedN sp ks (i + 1)) = mkS (typedN sp ks i) ++ (⟨#[(U27.getD ((sp.fdiv 15 + 5 * (i : Int)).fmod 29).toNat 0).toNat]⟩ : Str) ++ (⟨#[c.toNat]⟩ : Str) := by
  have e : ks.getD i 0 = kd := by rw [List.getD_eq_getElem?_getD, hk]; rfl
  rw [typedN_succ, e, mkS_snoc, mkS_snoc]
  unfold signsF hidF
  rw [if_pos hh, hc, List.append_assoc]
theorem step0 {sp : Int} {i : Nat} {kd c : Int} {ks : List Int} (hk : ks[i]? = some kd) (hh : ¬ (sp.fdiv 15 + 5 * (i : Int)).fmod 29 < 27) (hc : codeF sp i kd = c) :
    mkS (typedN sp ks (i + 1)) = mkS (typedN sp ks i) ++ (⟨#[c.toNat]⟩ : Str) := by
  have e : ks.getD i 0 = kd := by rw [List.getD_eq_getElem?_getD, hk]; rfl
  rw [typedN_succ, e, mkS_snoc]
  unfold signsF hidF
  rw [if_neg hh, hc, List.nil_append]
local macro_rules | `(tactic| walk_at "call builtin:chr") => `(tactic| (k_here; (refine k_chr ?k1 ?_; (case k1 => first | exact chrOk_U _ | exact chrOk_6 _ _ | exact chrOk_A _ _ | exact chrOk_B _ _ (by assumption)); k_whole)))
local macro_rules | `(tactic| walk_at "call ref") => `(tactic| (
  k_here
  k_dflt (refine' mcv_use (mc_concat _ _ _ _ ?ka) ?k1 ?k2 ?k3 ?k4 ?k5 ?k6 ?k7 ?k8 ?k9 ?_)
  (case ka => ((try simp only [mkS_snoc, mkS_len, List.length_append, List.length_cons, List.length_nil]); (try simp only [Str.length, List.size_toArray, List.length_cons, List.length_nil]); omega))
  (case k7 => intro p hp; cases hp)
  walk_at "MCARGS"))
section
variable {w : World} {p : Program} {loose : List Str} {mean : ExcName → Option Value} {mg mb : Str → Option Value}
set_option maxHeartbeats 4000000
theorem mc_typed (lk lu : Addr) (nk nu : Nat) (vk vu : List Value) (ks : List Int) (sp : Int) (tsp : Tok) (hik : IntsAre vk ks) (hiu : IntsAre vu U27) (hks : ∀ k ∈ ks, 0 ≤ k ∧ k ≤ 8) (hl : ks.length ≤ 5) (h0 : 0 ≤ sp) (h1 : sp < 2 ^ 40) :
    MCV w p loose mean mg mb 1 215 [(lk, listOf vk.toArray nk), (lu, listOf vu.toArray nu)] [.ref lk, .int sp tsp, .ref lu] (fun t => .str (mkS (typedN sp ks ks.length)) t) := by
  w_top off
  unfold MCV MC
  intro news dp un gd cn cs a0 ccd cl outer A₀ base h₀ L m s Q E B F X N T hk hd hu hret
  refine wpAny_call ?_
  k_dflt cell_enter
  k_steps
  refine Stop.go ?_
  (with_reducible rename Fr _ _ _ _ => F')
  (with_reducible rename News _ _ _ _ => N')
  (with_reducible rename IsEnum _ _ _ _ _ => he')
  (with_reducible rename Heap.IsListIter _ _ _ _ => hit')
  (rename (_ < _) => hli')
  refine enum_loop (vs := vk) (fun i m nx => nx = [(lk, listOf vk.toArray nk), (lu, listOf vu.toArray nu)] ++ news ∧ m (Str.ofString "spelling") = some (.int sp tsp) ∧ m (Str.ofString "unseen") = some (.ref lu) ∧ ∃ t, m (Str.ofString "text") = some (.str (mkS (typedN sp ks i)) t)) rfl he' hit' (News.isList N' (.head _)) (by assumption) (by assumption) hli' (N' _ (.head _)).2.1 F' N' ⟨rfl, rfl, rfl, _, rfl⟩ ?_ ?_
  · rintro i v t m₁ news₁ h tk own hv ⟨rfl, hsp, hun, t₁, ht⟩ _ hown F₁ N₁
    obtain ⟨kd, tkd, rfl, hkd⟩ := hik.at i v hv
    have hi5 : i < 5 := by
      have := List.getElem?_eq_some_iff.mp hkd
      obtain ⟨h1, _⟩ := this
      omega
    have hkd' := hks kd (List.mem_of_getElem? hkd)
    have hUl : U27.length = 27 := rfl
    have hlen := typedN_len sp ks i
    replace F₁ := fr_pin F₁ (x := Str.ofString "text") (by exact ht)
    replace F₁ := fr_pin F₁ (x := Str.ofString "spelling") (by exact hsp)
    replace F₁ := fr_pin F₁ (x := Str.ofString "unseen") (by exact hun)
    k_steps
    all_goals (
      refine PEnd.intro (by assumption) (by assumption) ?sub rfl ?j
      case sub => first | exact fun p hp => hp | exact fun p hp => .tail _ hp | exact fun p hp => .tail _ (.tail _ hp)
      case j =>
        dsimp only
        first
        | (rw [step1 hkd (by first | assumption | omega) (code1 (by first | assumption | omega))]; exact ⟨rfl, rfl, rfl, _, rfl⟩)
        | (rw [step1 hkd (by first | assumption | omega) (code2 (by first | assumption | omega) (by first | assumption | omega))]; exact ⟨rfl, rfl, rfl, _, rfl⟩)
        | (rw [step1 hkd (by first | assumption | omega) (code3 (by first | assumption | omega) (by first | assumption | omega))]; exact ⟨rfl, rfl, rfl, _, rfl⟩)
        | (rw [step0 hkd (by first | assumption | omega) (code1 (by first | assumption | omega))]; exact ⟨rfl, rfl, rfl, _, rfl⟩)
        | (rw [step0 hkd (by first | assumption | omega) (code2 (by first | assumption | omega) (by first | assumption | omega))]; exact ⟨rfl, rfl, rfl, _, rfl⟩)
        | (rw [step0 hkd (by first | assumption | omega) (code3 (by first | assumption | omega) (by first | assumption | omega))]; exact ⟨rfl, rfl, rfl, _, rfl⟩))
  · rintro m₁ news₁ h tk _ ⟨rfl, hsp, hun, t₁, ht⟩ F₁ N₁
    replace F₁ := fr_pin F₁ ht
    k_steps
    refine hret _ [] _ _ ⟨rfl, t₁, ?_⟩ (by assumption) (by assumption)
    rw [hik.length]
end
end S_MC2
section S_MC3
local macro_rules | `(tactic| walk_at "pad") => `(tactic| skip)
theorem is_bits {prog : Program} {w : World} {A : Around} {E : Value → Shared → Prop} {s : Shared} {a b : Int} {t u : Tok} {Q : Value → Shared → Prop} (ha : a = 0 ∨ a = 1) (hb : b = 0 ∨ b = 1) (ht : t ≠ 0) (hu : u ≠ 0) (htu : t ≠ u)
    (h : Q (.bool (a == b)) s) : wpAny (model prog w) A (compareOp .Is (.int a t) (.int b u)) Q E s := by
  have e0 : (t == 0 || u == 0) = false := by simp [ht, hu]
  have e1 : (t == u) = false := by simp [htu]
  show wpAny _ _ (do return .bool (← isSame (.int a t) (.int b u))) Q E s
  refine wpAny_bind ?_
  show wpAny _ _ (if a == b && smallInt a then isSame.cachedInt t u else isSame.created (a == b) t u) _ E s
  unfold isSame.cachedInt isSame.created
  rw [e0, e1]
  rcases ha with rfl | rfl <;> rcases hb with rfl | rfl
  · exact wpAny_bind (wpAny_rule (wpAny_pure (wpAny_pure h)))
  · exact wpAny_pure (wpAny_pure h)
  · exact wpAny_pure (wpAny_pure h)
  · exact wpAny_bind (wpAny_rule (wpAny_pure (wpAny_pure h)))

theorem bits_le {a : Int} {n : Nat} (h0 : 0 ≤ a) (h : a < 2 ^ n) : (Builtin.Int.intBits a : Int) ≤ n := by
  unfold Builtin.Int.intBits
  by_cases e : a = 0
  · simp [e]
  · rw [if_neg (by simpa using e)]
    have h1 : a.natAbs < 2 ^ n := by
      have : (a.natAbs : Int) < ((2 ^ n : Nat) : Int) := by rw [Int.natAbs_of_nonneg h0]; simpa using h
      exact Int.ofNat_lt.mp this
    have h2 : a.natAbs.log2 < n := (Nat.log2_lt (by omega)).mpr h1
    omega
local macro_rules | `(tactic| walk_at "binaryOp LShift int int") => `(tactic| (k_here; (refine lshift_int (by assumption) (by assumption) ?_)))
local macro_rules | `(tactic| walk_at "compareOp Is int int") => `(tactic| (k_here; (refine is_bits ?k1 ?k2 ?k3 ?k4 ?k5 ?_; (case k1 => assumption); (case k2 => first | exact .inl rfl | exact .inr rfl); (case k3 => assumption); (case k4 => assumption); (case k5 => assumption); k_whole)))
section
variable {w : World} {p : Program} {loose : List Str} {mean : ExcName → Option Value} {mg mb : Str → Option Value}
set_option maxHeartbeats 4000000
theorem mc_lenh (a : Str) (ta : Tok) (ha : a.length ≤ 1000) :
    MCV w p loose mean mg mb 1 144 [] [.str a ta] (fun t => .int a.length t) := by
  w_top off
  unfold MCV MC
  intro news dp un gd cn cs a0 ccd cl outer A₀ base h₀ L m s Q E B F X N T hk hd hu hret
  walk_at "MYENTER"
  k_steps
  refine hret _ [] _ _ ⟨rfl, _, rfl⟩ (by assumption) (by assumption)
theorem mc_ls (a b : Int) (ta tb : Tok) (h0 : 0 ≤ b) (hsz : (Builtin.Int.intBits a : Int) + b ≤ 2 ^ 27) :
    MCV w p loose mean mg mb 0 101 [] [.int a ta, .int b tb] (fun t => .int (a * 2 ^ b.toNat) t) := by
  w_top off
  unfold MCV MC
  intro news dp un gd cn cs a0 ccd cl outer A₀ base h₀ L m s Q E B F X N T hk hd hu hret
  walk_at "MYENTER"
  k_steps
  refine hret _ [] _ _ ⟨rfl, _, rfl⟩ (by assumption) (by assumption)
theorem mc_rs (a b : Int) (ta tb : Tok) (h0 : 0 ≤ b) :
    MCV w p loose mean mg mb 0 115 [] [.int a ta, .int b tb] (fun t => .int (a.fdiv (2 ^ b.toNat)) t) := by
  w_top off
  unfold MCV MC
  intro news dp un gd cn cs a0 ccd cl outer A₀ base h₀ L m s Q E B F X N T hk hd hu hret
  walk_at "MYENTER"
  k_steps
  all_goals refine hret _ [] _ _ ⟨rfl, _, rfl⟩ (by assumption) (by assumption)
theorem mc_andT (a b : Int) (ta tb : Tok) :
    MC w p loose mean mg mb 0 94 [] [.int a ta, .int b tb] (fun v own tk' => own = [] ∧ ∃ t, v = .int (Builtin.bitAnd a b) t ∧ 0 < t ∧ t < tk') := by
  w_top off
  unfold MC
  intro news dp un gd cn cs a0 ccd cl outer A₀ base h₀ L m s Q E B F X N T hk hd hu hret
  walk_at "MYENTER"
  k_steps
  refine hret _ [] _ _ ⟨rfl, _, rfl, ?_, ?_⟩ (by assumption) (by assumption)
  · show 0 < s.toks + 2
    exact Nat.succ_pos _
  · exact Nat.lt_succ_self _
/-- the items of a list of figures, and a number that is no one of them as an object -/
noncomputable def ApartFrom (vs : List Value) (tb : Tok) : Prop := tb ≠ 0 ∧ ∀ i t, Value.int i t ∈ vs → (i = 0 ∨ i = 1) ∧ t ≠ 0 ∧ t ≠ tb
theorem count_take {ns : List Int} {i : Nat} {x : Int} (h : ns[i]? = some x) : (ns.take (i + 1)).count 0 = (ns.take i).count 0 + if x = 0 then 1 else 0 := by
  rw [List.take_add_one, h, List.count_append]
  by_cases e : x = 0 <;> simp [e]
theorem mc_count (l : Addr) (n : Nat) (vs : List Value) (ns : List Int) (tb : Tok) (hi : IntsAre vs ns) (hap : ApartFrom vs tb) (hl : ns.length ≤ 1000) :
    MCV w p loose mean mg mb 0 129 [(l, listOf vs.toArray n)] [.ref l, .int 0 tb] (fun t => .int (ns.count 0) t) := by
  w_top off
  unfold MCV MC
  intro news dp un gd cn cs a0 ccd cl outer A₀ base h₀ L m s Q E B F X N T hk hd hu hret
  walk_at "MYENTER"
  k_steps
  refine Stop.go ?_
  (with_reducible rename Fr _ _ _ _ => F')
  (with_reducible rename News _ _ _ _ => N')
  refine list_loop (vs := vs) (fun i m nx => nx = [(l, listOf vs.toArray n)] ++ news ∧ m (Str.ofString "b") = some (.int 0 tb) ∧ ∃ t, m (Str.ofString "count") = some (.int ((ns.take i).count 0 : Nat) t)) rfl (News.isList N' (.head _)) (N' _ (.head _)).2.1 F' N' ⟨rfl, rfl, _, rfl⟩ ?_ ?_
  · rintro I i v m₁ news₁ h tk own hI hv ⟨rfl, hb, t₁, ht⟩ hnI ⟨o, hIo⟩ F₁ N₁
    obtain ⟨x, tx, rfl, hx⟩ := hi.at i v hv
    obtain ⟨hbit, hx0, hxb⟩ := hap.2 x tx (List.mem_of_getElem? hv)
    have htb := hap.1
    have hct := count_take hx
    have hle : (ns.take i).count 0 ≤ 1000 := Nat.le_trans (List.count_le_length ..) (Nat.le_trans (List.length_take_le _ _) (by
      have := (List.getElem?_eq_some_iff.mp hx).1; omega))
    replace F₁ := fr_pin F₁ (x := Str.ofString "count") (by exact ht)
    replace F₁ := fr_pin F₁ (x := Str.ofString "b") (by exact hb)
    k_steps
    all_goals (
      refine LEnd.intro (by assumption) (by assumption) (fun p hp => hp) hnI ?_
      dsimp only
      rw [hct]
      first
      | (exact absurd (show x = 0 by assumption) (show x ≠ 0 by assumption))
      | (rw [if_pos (show x = 0 by assumption)]; exact ⟨rfl, rfl, _, rfl⟩)
      | (rw [if_neg (show x ≠ 0 by assumption)]; exact ⟨rfl, rfl, _, rfl⟩))
  · rintro m₁ news₁ h tk ⟨rfl, hb, t₁, ht⟩ F₁ N₁
    replace F₁ := fr_pin F₁ ht
    k_steps
    refine hret _ [] _ _ ⟨rfl, t₁, ?_⟩ (by assumption) (by assumption)
    rw [hi.length, List.take_length]
theorem idx_of {ns : List Int} {i : Nat} (hno : (1 : Int) ∉ ns.take i) (h : ns[i]? = some 1) : ns.idxOf 1 = i := by
  induction ns generalizing i with
  | nil => simp at h
  | cons a ns ih =>
    cases i with
    | zero => simp at h; simp [h, List.idxOf_cons]
    | succ i =>
      simp only [List.take_succ_cons, List.mem_cons, not_or] at hno
      have ha : ¬ a = 1 := fun e => hno.1 e.symm
      have := ih hno.2 (by simpa using h)
      rw [List.idxOf_cons, show (a == 1) = false by simpa using ha, this]; rfl
theorem mc_index (l : Addr) (n : Nat) (vs : List Value) (ns : List Int) (tb : Tok) (hi : IntsAre vs ns) (hap : ApartFrom vs tb) (hl : ns.length ≤ 1000) (h1 : 1 ∈ ns) :
    MCV w p loose mean mg mb 0 136 [(l, listOf vs.toArray n)] [.ref l, .int 1 tb] (fun t => .int (ns.idxOf 1) t) := by
  w_top off
  unfold MCV MC
  intro news dp un gd cn cs a0 ccd cl outer A₀ base h₀ L m s Q E B F X N T hk hd hu hret
  walk_at "MYENTER"
  k_steps
  refine Stop.go ?_
  (with_reducible rename Fr _ _ _ _ => F')
  (with_reducible rename News _ _ _ _ => N')
  (with_reducible rename IsEnum _ _ _ _ _ => he')
  (with_reducible rename Heap.IsListIter _ _ _ _ => hit')
  (rename (_ < _) => hli')
  refine enum_else (vs := vs) (fun i m nx => nx = [(l, listOf vs.toArray n)] ++ news ∧ m (Str.ofString "b") = some (.int 1 tb) ∧ 1 ∉ ns.take i) rfl rfl rfl rfl (by passes_own) he' hit' (News.isList N' (.head _)) (by assumption) (by assumption) hli' (N' _ (.head _)).2.1 F' N' ⟨rfl, rfl, by simp⟩ ?_ ?_
  · rintro m' nx ⟨_, _, hno⟩
    rw [hi.length, List.take_length] at hno
    exact hno h1
  · rintro i v t m₁ news₁ h tk own hv ⟨rfl, hb, hno⟩ _ F₁ N₁
    obtain ⟨x, tx, rfl, hx⟩ := hi.at i v hv
    obtain ⟨hbit, hx0, hxb⟩ := hap.2 x tx (List.mem_of_getElem? hv)
    have htb := hap.1
    have hil := (List.getElem?_eq_some_iff.mp hx).1
    replace F₁ := fr_pin F₁ (x := Str.ofString "b") (by exact hb)
    k_steps
    all_goals first
      | (exact absurd (show x = 1 by assumption) (show x ≠ 1 by assumption))
      | (refine PEnd.intro (by assumption) (by assumption) (fun p hp => hp) rfl ⟨rfl, rfl, ?_⟩
         rw [List.take_add_one, hx]
         exact fun hm => (List.mem_append.mp hm).elim hno fun hm => absurd (List.mem_singleton.mp hm).symm (show x ≠ 1 by assumption))
      | (refine hret _ [] _ _ ⟨rfl, t, ?_⟩ (by assumption) (news_sub (b := [(l, listOf vs.toArray n)] ++ news ++ own) (by assumption) fun p hp => List.mem_append.mpr (.inl hp))
         rw [idx_of hno (by rw [hx, show x = 1 by assumption])])
end
end S_MC3
local macro_rules | `(tactic| walk_at "binaryOp LShift int int") => `(tactic| (k_here; (refine lshift_int (by assumption) (by assumption) ?_)))
local macro_rules | `(tactic| walk_at "compareOp Is int int") => `(tactic| (k_here; (refine is_bits ?k1 ?k2 ?k3 ?k4 ?k5 ?_; (case k1 => assumption); (case k2 => first | exact .inl rfl | exact .inr rfl); (case k3 => assumption); (case k4 => assumption); (case k5 => assumption); k_whole)))
local macro_rules | `(tactic| walk_at "MYENTERC") => `(tactic| (
  refine wpAny_call ?_
  k_dflt refine' code_defC ?k1 ?k2 ?k3 ?k4 ?k5 ?kA ?kF ?kK ?k6 ?k7 ?k8 ?k9 ?kB ?kD ?_ ?c2 ?c3 ?c4
  (case kA => exact rfl)
  (case kF => exact rfl)
  (case kK => assumption)
  (case k1 => k_asm)
  (case k2 => k_asm)
  (case k3 => k_asm)
  (case k4 => k_asm)
  (case k5 => k_asm)
  (case k6 => k_is)
  (case k7 => k_is)
  (case k8 => ktr_room)
  (case k9 => k_dflt first | exact BindsTo.of_eq rfl | exact binds_K (by k_in) rfl (by k_is) rfl rfl rfl)
  (case kB => exact rfl)
  (case kD => decide +kernel)
  (case c2 => exact rfl)
  (case c3 => exact rfl)
  (case c4 => exact rfl)
  k_whole))
section S_MC4
section
variable {w : World} {p : Program} {loose : List Str} {mean : ExcName → Option Value} {mg mb : Str → Option Value}
set_option maxHeartbeats 4000000
local macro_rules | `(tactic| walk_at "eval ListComp") => `(tactic| (k_here; k_dflt (refine ListComp_tok (by k_asm) (by rfl) (by decide) (by rfl) (by decide) (by rfl) ?_)))
theorem fN_step (z k h : Nat) : Builtin.bitOr ((fN z k h : Nat) : Int) (((fN z k h : Nat) : Int) * 2 ^ ((z : Nat) : Int).toNat) = ((fN z (k + 1) h : Nat) : Int) := by
  have e : ((fN z k h : Nat) : Int) * 2 ^ ((z : Nat) : Int).toNat = ((fN z k h * 2 ^ z : Nat) : Int) := by
    rw [Int.toNat_natCast]; simp
  rw [e, orN]
  rfl
theorem fN_bits (z k h : Nat) (hh : h < 2 ^ 100) (hz : z * k ≤ 100) : (Builtin.Int.intBits ((fN z k h : Nat) : Int) : Int) ≤ 200 := by
  refine bits_le (n := 200) (Int.natCast_nonneg _) ?_
  have h1 := fN_lt z k h 100 hh
  have h2 : fN z k h < 2 ^ 200 := Nat.lt_of_lt_of_le h1 (Nat.pow_le_pow_right (by decide) (by omega))
  exact_mod_cast h2
theorem nat_at {ns : List Nat} {i : Nat} {x : Int} (h : (ns.map fun n : Nat => (n : Int))[i]? = some x) : ∃ n, ns[i]? = some n ∧ x = (n : Int) := by
  rw [List.getElem?_map] at h
  cases e : ns[i]? with
  | none => rw [e] at h; cases h
  | some n => rw [e] at h; exact ⟨n, rfl, (Option.some.inj h).symm⟩
theorem mc_figures (l : Addr) (n : Nat) (vs : List Value) (ns : List Nat) (hi : IntsAre vs (ns.map fun n : Nat => (n : Int))) (hb : ∀ a ∈ ns, 2 ≤ a ∧ a ≤ 40) (hl : ns.length ≤ 3) :
    MC w p loose mean mg mb 2 227 [(l, listOf vs.toArray n)] [.ref l] (fun v own tk' => ∃ D ys, v = .ref D ∧ own = [(D, LCg.lst ys)] ∧ IntsAre ys (figOf ns) ∧ ∀ a t, Value.int a t ∈ ys → t ≠ 0 ∧ t < tk') := by
  w_top off
  unfold MC
  intro news dp un gd cn cs a0 ccd cl outer A₀ base h₀ L m s Q E B F X N T hk hd hu hret
  walk_at "MYENTERC"
  intro g' L' h' tk' cells' FG' F' N' Y' B' X' T' l1
  have q1 : ∀ p ∈ (l, listOf vs.toArray n) :: news, p.1 ≠ L' + 1 := fun p hp => Nat.ne_of_lt (Nat.lt_succ_of_lt (l1 p hp))
  k_cells Y'
  (try simp only [List.cons_append, List.nil_append] at N')
  (try dsimp only)
  (try k_lift B')
  (try k_fold)
  k_steps
  refine Stop.go ?_
  (with_reducible rename Fr _ _ _ _ => F2)
  (with_reducible rename News _ _ _ _ => N2)
  (rename (_ = Data.cell _) => d2)
  refine list_loopO (vs := vs) (fun i m nx => ∃ o t, nx = (L' + 1, o) :: (l, listOf vs.toArray n) :: news ∧ o.data = .cell (some (.int ((fAll (ns.take i) : Nat) : Int) t))) rfl (News.isList N2 (.tail _ (.head _))) (N2 _ (.tail _ (.head _))).2.1 F2 N2 ⟨_, _, rfl, d2⟩ ?_ ?_
  · rintro I i v m₁ news₁ h tk own hI hv ⟨o, t, rfl, ho⟩ hnI hsub ⟨oI, hIo⟩ F₁ N₁
    obtain ⟨x', tx, rfl, hx'⟩ := hi.at i v hv
    obtain ⟨x, hx, rfl⟩ := nat_at hx'
    have hx2 := hb x (List.mem_of_getElem? hx)
    have hcI : L' + 1 < I := hI _ (.head _)
    have hlI : l < I := hI _ (.tail _ (.head _))
    have hnI2 : ∀ o₂, ∀ p ∈ (L' + 1, o₂) :: (l, listOf vs.toArray n) :: news, p.1 ∉ [I] := fun o₂ p hp hm => by
      rw [List.mem_singleton] at hm
      rcases List.mem_cons.mp hp with rfl | hp
      · exact Nat.ne_of_lt hcI hm
      · exact Nat.ne_of_lt (hI p (.tail _ hp)) hm
    have q2 : ∀ p ∈ (l, listOf vs.toArray n) :: news ++ own, p.1 ≠ L' + 1 := fun p hp => (List.mem_append.mp hp).elim (q1 p) fun hp => (hsub p hp).elim (fun e => by rw [e]; exact Nat.ne_of_gt hcI) fun e => by rw [e]; exact q1 (l, _) (.head _)
    k_steps
    refine Stop.go ?_
    (with_reducible rename IsRange _ _ _ _ _ _ _ _ => hr)
    (with_reducible rename Fr _ _ _ _ => F3)
    (with_reducible rename News _ _ _ _ => N3)
    have hil := (List.getElem?_eq_some_iff.mp hx).1
    have hfd : Int.fdiv 40 (x : Int) = ((40 / x : Nat) : Int) := by
      rw [Int.fdiv_eq_ediv_of_nonneg _ (by omega)]; rfl
    have hq40 : 40 / x ≤ 40 := Nat.div_le_self ..
    have hxq : x * (40 / x) ≤ 40 := Nat.mul_div_le 40 x
    rw [hfd] at hr
    have hG : fAll (ns.take i) < 2 ^ 100 := Nat.lt_of_lt_of_le (fAll_lt ns i (by omega)) (Nat.pow_le_pow_right (by decide) (by omega))
    refine range_loopO (n := 40 / x) (fun j m nx => m (Str.ofString "size") = some (.int (x : Int) tx) ∧ ∃ o t, nx = (L' + 1, o) :: (l, listOf vs.toArray n) :: (news ++ own) ∧ o.data = .cell (some (.int ((fN x j (fAll (ns.take i)) : Nat) : Int) t))) rfl hr ?_ ?_ F3 N3 ⟨rfl, _, _, rfl, ho⟩ ?_ ?_
    · generalize 40 / x = q at hq40
      exact small_one (by omega) (by omega) (by omega) (by omega)
    · rw [rangeSize_nat]
      generalize 40 / x = q at hq40
      omega
    · rintro I' j t' m₂ news₂ h₂ tk₂ own₂ hj hI' ⟨hsz, o₂, t₂, rfl, ho₂⟩ hnI' hsub' ⟨oI', hIo'⟩ F₄ N₄
      have q3 : ∀ p ∈ (l, listOf vs.toArray n) :: (news ++ own) ++ own₂, p.1 ≠ L' + 1 := fun p hp => (List.mem_append.mp hp).elim (q2 p) fun hp => by rw [hsub' p hp]; exact Nat.ne_of_gt (hI' _ (.head _))
      have hxj : x * j ≤ 100 := Nat.le_trans (Nat.mul_le_mul_left x (Nat.le_of_lt hj)) (by omega)
      have hbits := fN_bits x j _ hG hxj
      replace F₄ := fr_pin F₄ (x := Str.ofString "size") (by exact hsz)
      k_steps
      k_dflt (refine' mcv_use (mc_ls _ _ _ _ ?ka ?kb) ?k1 ?k2 ?k3 ?k4 ?k5 ?k6 ?k7 ?k8 ?k9 ?_)
      case ka => omega
      case kb => exact Int.le_trans (Int.add_le_add hbits (show (x : Int) ≤ 40 by omega)) (by decide)
      case k7 => exact fun _ h => nomatch h
      walk_at "MCARGS"
      k_steps
      k_dflt (refine' mcv_use (mc_or _ _ _ _) ?k1 ?k2 ?k3 ?k4 ?k5 ?k6 ?k7 ?k8 ?k9 ?_)
      case k7 => exact fun _ h => nomatch h
      walk_at "MCARGS"
      k_steps
      (rename (_ = Data.cell _) => d4)
      rw [fN_step] at d4
      refine LEnd.intro (by assumption) (by assumption) (news' := (L' + 1, _) :: (l, listOf vs.toArray n) :: (news ++ own)) (fun p hp => hp) (fun p hp hm => ?_) ⟨rfl, _, _, rfl, d4⟩
      rw [List.mem_singleton] at hm
      rcases List.mem_cons.mp hp with rfl | hp
      · exact Nat.ne_of_lt (hI' _ (.head _)) hm
      · exact Nat.ne_of_lt (hI' p (.tail _ hp)) hm
    · rintro m₂ news₂ h₂ tk₂ ⟨hsz, o₂, t₂, rfl, ho₂⟩ F₄ N₄
      k_steps
      refine LEnd.intro (by assumption) (by assumption) (news' := (L' + 1, o₂) :: (l, listOf vs.toArray n) :: news) (fun p hp => hp) (hnI2 _) ⟨o₂, t₂, rfl, ?_⟩
      rw [fAll_take hx]
      exact ho₂
  · rintro m₁ news₁ h tk ⟨o, t, rfl, ho⟩ F₁ N₁
    k_steps
    (with_reducible rename IsRange _ _ _ _ _ _ _ _ => hr)
    (with_reducible rename Fr _ _ _ _ => F3)
    (with_reducible rename News _ _ _ _ => N3)
    have hvl : vs.length = ns.length := by rw [hi.length, List.length_map]
    refine ⟨_, _, _, _, _, _, 41, _, fun i ys nx tk => nx = (L' + 1, o) :: (l, listOf vs.toArray n) :: news ∧ IntsAre ys ((figOf ns).take i) ∧ ∀ a t, Value.int a t ∈ ys → t ≠ 0 ∧ t < tk, rfl, rfl, F3, N3, hr, by decide, by decide, by rw [sizeLine_eq]; decide, ?_, ⟨rfl, .nil, fun _ _ h => nomatch h⟩, ?_, ?_⟩
    · rintro i ys nx tk tk' hle ⟨e, hi, ht⟩
      exact ⟨e, hi, fun a t hm => ⟨(ht a t hm).1, Nat.lt_of_lt_of_le (ht a t hm).2 hle⟩⟩
    · rintro i tv ys nx I oI C oC D m₂ h₂ tk₂ E' hi41 ⟨rfl, hI, hT⟩ hC hx F4 N4 off ne
      k_steps
      k_dflt (refine' mc_use (mc_rs _ _ _ _ ?ka) ?k1 ?k2 ?k3 ?k4 ?k5 ?k6 ?k7 ?k8 ?k9 ?_)
      case ka => omega
      case k7 => exact fun _ h => nomatch h
      (case k1 => k_asm)
      (case k2 => k_asm)
      (case k3 => k_asm)
      (case k4 => k_asm)
      (case k5 => k_asm)
      (case k6 => first | exact rfl | assumption)
      (case k8 => ktr_room)
      (case k9 => ktr_units)
      k_whole
      rintro v own h5 tk5 hle5 ⟨rfl, t5, rfl⟩ F5 N5
      try simp only [List.nil_append] at N5
      try k_fold
      k_steps
      k_dflt (refine' mc_use (mc_andT _ _ _ _) ?k1 ?k2 ?k3 ?k4 ?k5 ?k6 ?k7 ?k8 ?k9 ?_)
      case k7 => exact fun _ h => nomatch h
      (case k1 => k_asm)
      (case k2 => k_asm)
      (case k3 => k_asm)
      (case k4 => k_asm)
      (case k5 => k_asm)
      (case k6 => first | exact rfl | assumption)
      (case k8 => ktr_room)
      (case k9 => ktr_units)
      k_whole
      rintro v own h6 tk6 hle6 ⟨rfl, t6, rfl, ht0, ht6⟩ F6 N6
      try simp only [List.nil_append] at N6
      try k_fold
      k_steps
      refine KEnd.intro F6 N6 _ (fun p hp => hp) off ⟨rfl, ?_, ?_⟩
      · have e := shrN (fAll ns) i
        rw [show ((2 : Int) ^ (((i : Nat) : Int).toNat)) = 2 ^ (0 + (i : Int)).toNat by rw [Int.zero_add]] at e
        rw [hvl, List.take_length, e, List.take_add_one, show (figOf ns)[i]? = some (((fAll ns / 2 ^ i % 2 : Nat) : Int)) by
          unfold figOf
          rw [List.getElem?_map, List.getElem?_range hi41]; rfl]
        exact IntsAre.append hI (.cons _ _ .nil)
      · intro a t hm
        rcases List.mem_append.mp hm with hm | hm
        · have := hT a t hm
          refine ⟨this.1, ?_⟩
          have h6 : tk5 + 1 ≤ tk6 := hle6
          exact Nat.lt_of_lt_of_le this.2 (Nat.le_trans hle5 (Nat.le_trans (Nat.le_succ _) h6))
        · cases List.mem_singleton.mp hm
          exact ⟨Nat.ne_of_gt ht0, ht6⟩
    · rintro D ys nx h₂ tk₂ ⟨rfl, hI, hT⟩ F4 N4 off
      k_steps
      refine hret _ [(D, LCg.lst ys)] _ _ ⟨D, ys, rfl, rfl, ?_, hT⟩ (by assumption) ?_
      rotate_left
      · (with_reducible rename News h₀ L _ _ => N8)
        exact news_sub N8 fun p hp => by
          rcases List.mem_cons.mp hp with rfl | hp
          · exact .head _
          · first | exact .tail _ hp | exact .tail _ (.tail _ hp)
      rwa [List.take_of_length_le (by simp [figOf])] at hI
end
end S_MC4
section S_MC5
section
variable {w : World} {p : Program} {loose : List Str} {mean : ExcName → Option Value} {mg mb : Str → Option Value}
set_option maxHeartbeats 4000000

local macro_rules | `(tactic| walk_at "exec For Name Call cons nil") => `(tactic| (k_here; (with_reducible rename Fr _ _ _ _ => lF'); (with_unfolding_all refine' my_ForT lF' ?_); k_whole))
local macro_rules | `(tactic| walk_at "eval ListComp") => `(tactic| (k_here; k_dflt (refine LCt.ListComp_T (F₀ := by k_asm) (by rfl) (by decide) (by rfl) (by decide) (by rfl) ?_)))
local macro_rules | `(tactic| walk_at "CompSrcT") => `(tactic| (refine Stop.out ?_))
local macro_rules | `(tactic| walk_at "CompSrc") => `(tactic| (refine Stop.out ?_))
/-- which lengths a text of the stock has, up to k -/
noncomputable def hvL (ns : List Nat) : Nat → List Bool
  | 0 => [true]
  | k + 1 => hvL ns k ++ [ns.any fun z => decide (z ≤ k + 1) && (hvL ns k).getD (k + 1 - z) false]
theorem hvL_length (ns : List Nat) (k : Nat) : (hvL ns k).length = k + 1 := by
  induction k with
  | zero => rfl
  | succ k ih => rw [hvL, List.length_append, ih]; rfl
noncomputable def gapsOf (ns : List Nat) : List Nat := (List.range 41).filter fun k => !(hvL ns 40).getD k false
theorem foldl_filter {α : Type} (p : α → Bool) (l acc : List α) : l.foldl (fun acc z => if p z then acc ++ [z] else acc) acc = acc ++ l.filter p := by
  induction l generalizing acc with
  | nil => simp
  | cons a l ih =>
    rw [List.foldl_cons, ih]
    cases h : p a <;> simp [List.filter_cons, h]
theorem hv_any (ns : List Nat) (i : Nat) (hv : List Bool) : (!decide ((ns.map (fun n : Nat => (n : Int))).foldl (fun acc z => if (decide (z ≤ 1 + (i : Int)) && hv.getD (1 + (i : Int) - z).toNat false) then acc ++ [z] else acc) [] = [])) = ns.any (fun z => decide (z ≤ i + 1) && hv.getD (i + 1 - z) false) := by
  rw [foldl_filter, List.nil_append, List.filter_map]
  have e : ((fun z : Int => decide (z ≤ 1 + (i : Int)) && hv.getD (1 + (i : Int) - z).toNat false) ∘ (fun n : Nat => (n : Int))) = fun z : Nat => decide (z ≤ i + 1) && hv.getD (i + 1 - z) false := by
    funext z
    show (decide ((z : Int) ≤ 1 + (i : Int)) && hv.getD (1 + (i : Int) - (z : Int)).toNat false) = _
    rw [show (1 + (i : Int) - (z : Int)).toNat = i + 1 - z by omega, show decide ((z : Int) ≤ 1 + (i : Int)) = decide (z ≤ i + 1) by
      rw [decide_eq_decide]; omega]
  rw [e]
  induction ns with
  | nil => rfl
  | cons a r ih =>
    rw [List.any_cons, List.filter_cons]
    cases h : (decide (a ≤ i + 1) && hv.getD (i + 1 - a) false)
    · rw [Bool.false_or, ← ih]; rfl
    · rfl
theorem mc_gaps (l : Addr) (n : Nat) (vs : List Value) (ns : List Nat) (hi : IntsAre vs (ns.map fun n : Nat => (n : Int))) (hb : ∀ a ∈ ns, 1 ≤ a) (hl : ns.length ≤ 3) :
    MC w p loose mean mg mb 2 232 [(l, listOf vs.toArray n)] [.ref l] (fun v own tk' => ∃ D ys, v = .ref D ∧ own = [(D, LCg.lst ys)] ∧ IntsAre ys ((gapsOf ns).map fun n : Nat => (n : Int))) := by
  w_top off
  unfold MC
  intro news dp un gd cn cs a0 ccd cl outer A₀ base h₀ L m s Q E B F X N T hk hd hu hret
  walk_at "MYENTERC"
  intro g' L' h' tk' cells' FG' F' N' Y' B' X' T' l1
  k_cells Y'
  (try simp only [List.cons_append, List.nil_append] at N')
  have q1 : ∀ p ∈ (l, listOf vs.toArray n) :: news, p.1 ≠ L' + 1 := fun p hp => Nat.ne_of_lt (Nat.lt_succ_of_lt (l1 p hp))
  have q2 : ∀ p ∈ (l, listOf vs.toArray n) :: news, p.1 ≠ L' + 1 + 1 := fun p hp => Nat.ne_of_lt (Nat.lt_succ_of_lt (Nat.lt_succ_of_lt (l1 p hp)))
  (try dsimp only)
  (try k_lift B')
  (try k_fold)
  k_steps
  refine Stop.go ?_
  (with_reducible rename IsRange _ _ _ _ _ _ _ _ => hr)
  (with_reducible rename Fr _ _ _ _ => F2)
  (with_reducible rename News _ _ _ _ => N2)
  (rename (_ < _ ∧ _) => lts)
  (rename (_ = Data.cell (some _)) => dh)
  refine range_loopC (n := 40) (fun i m nx => m (Str.ofString "sizes") = some (.ref l) ∧ ∃ hl c oK oH vK, nx = (hl, listOf ((hvL ns i).map Value.bool).toArray c) :: (L' + 1 + 1, oK) :: (L' + 1, oH) :: (l, listOf vs.toArray n) :: news ∧ oK.data = .cell vK ∧ oH.data = .cell (some (.ref hl)) ∧ L' + 1 + 1 < hl ∧ L' + 1 < hl ∧ l < hl ∧ AllLt hl news) rfl hr (by decide) (by decide) F2 N2 ⟨rfl, _, _, _, _, _, rfl, by assumption, dh, lts⟩ ?_ ?_
  · rintro I i t m₁ nx s₁ own hi40 hI ⟨hsz, hl, c, oK, oH, vK, rfl, dK, dH, lt1, lt2, lt3, lt4⟩ hoff hown ⟨oI, hIo⟩ F3 N3
    have hcI1 : L' + 1 + 1 < I := hI _ (.tail _ (.head _))
    refine wpAny_assign_Name (stCN (own := [(hl, _)]) (rest := (L' + 1, oH) :: (l, listOf vs.toArray n) :: news ++ own) F3 N3 rfl dK ?_ ?_ (fun h4 oK' F4 N4 dK' => ?_))
    · intro p hp
      rw [List.mem_singleton.mp hp]
      exact Nat.ne_of_gt lt1
    · intro p hp
      rcases List.mem_cons.mp hp with rfl | hp
      · exact Nat.ne_of_lt (Nat.lt_succ_self _)
      rcases List.mem_append.mp hp with hp | hp
      · exact q2 p hp
      · rw [hown p hp]
        exact Nat.ne_of_gt hcI1
    have q3 : ∀ p ∈ own, p.1 ≠ L' + 1 := fun p hp => by rw [hown p hp]; exact Nat.ne_of_gt (Nat.lt_trans (Nat.lt_succ_self _) hcI1)
    simp only [List.cons_append, List.nil_append] at N4
    replace F4 := fr_pin F4 (x := Str.ofString "sizes") (by exact hsz)
    k_steps
    refine Stop.go ?_
    (with_reducible rename News _ _ _ _ => N5)
    (with_reducible rename Fr _ _ _ _ => F5)
    refine LCt.CompSrcT.ledger rfl F5 N5 (ax := l) (its := vs.toArray) (k := n) (by k_mem) (by rw [sizeLine_eq, List.size_toArray, hi.length, List.length_map]; omega) (fun g5 => ?_)
    refine kci_list (fun acc z => if (decide (z ≤ 1 + (i : Int)) && (hvL ns i).getD (1 + (i : Int) - z).toNat false) then acc ++ [z] else acc) hi ?_ ?_ ?_
    · intro z tz I2 oI2 C2 oC2 D2 m₂ ys acc h5 tk5 E5 hz hys hC hx F6 N6 off6 ne6 mk
      obtain ⟨z, hzn, rfl⟩ := List.mem_map.mp hz
      have hz1 := hb z hzn
      k_steps
      · refine item_litK (vs := (hvL ns i).map Value.bool) (v := .bool ((hvL ns i).getD (1 + (i : Int) - (z : Int)).toNat false)) (News.isList (by assumption) (by k_mem)) ?_ ?_ ?_ ?_
        · omega
        · omega
        · rw [List.getElem?_map, List.getD_eq_getElem?_getD, List.getElem?_eq_getElem (by rw [hvL_length]; omega)]; rfl
        · have hle : decide ((z : Int) ≤ 1 + (i : Int)) = true := decide_eq_true (by assumption)
          rw [hle, Bool.true_and]
          cases (hvL ns i).getD (1 + (i : Int) - (z : Int)).toNat false
          · k_steps
            refine LCg.CompEnd.intro (by assumption) (by assumption) _ (fun p hp => hp) off6 (.inr ⟨_, by k_mem, rfl, _, rfl⟩) (kci_no rfl rfl)
          · k_steps
            refine LCg.CompEnd.intro (by assumption) (by assumption) _ (fun p hp => hp) off6 (.inr ⟨_, by k_mem, rfl, _, rfl⟩) (kci_el rfl rfl rfl)
      · have hle : decide ((z : Int) ≤ 1 + (i : Int)) = false := decide_eq_false (by assumption)
        rw [hle, Bool.false_and]
        refine LCg.CompEnd.intro F6 N6 _ (fun p hp => hp) off6 (.inr ⟨_, by k_mem, rfl, _, rfl⟩) (kci_no rfl rfl)
    · unfold KPfDone
      intro ys hys hyl
      intro D h6 tk6 F6 N6 off6
      have q4 : ∀ p ∈ news ++ own, p.1 ≠ hl := fun p hp => (List.mem_append.mp hp).elim (fun hp => Nat.ne_of_lt (allLt_mem lt4 p hp)) fun hp => by rw [hown p hp]; exact fun e => hoff _ (.head _) (List.mem_singleton.mpr e.symm)
      k_steps
      (with_reducible rename News _ _ _ _ => N7)
      (with_reducible rename Fr _ _ _ _ => F7)
      (rename (_ < _ ∧ _) => lt7)
      have hDh : D ≠ hl := Ne.symm off6.1
      refine my_append (pre := [_, _]) F7 N7 ?_ ?_ ?_ (fun h8 F8 N8 => ?_)
      · rw [sizeLine_eq, List.size_toArray, List.length_map, hvL_length]; omega
      · intro p hp
        rcases List.mem_cons.mp hp with rfl | hp
        · exact Nat.ne_of_gt lt7.2.1
        · rw [List.mem_singleton.mp hp]; exact hDh
      · intro p hp
        rcases List.mem_cons.mp hp with rfl | hp
        · exact Nat.ne_of_lt lt1
        rcases List.mem_cons.mp hp with rfl | hp
        · exact Nat.ne_of_lt lt2
        rcases List.mem_cons.mp hp with rfl | hp
        · exact Nat.ne_of_lt lt3
        · exact q4 p hp
      k_steps
      dsimp only [NPost]
      refine LEnd.intro F8 N8 (news' := (hl, listOf ((hvL ns (i + 1)).map Value.bool).toArray (c + 1)) :: (L' + 1 + 1, oK') :: (L' + 1, oH) :: (l, listOf vs.toArray n) :: news) ?_ ?_ ⟨rfl, hl, c + 1, oK', oH, _, rfl, dK', dH, lt1, lt2, lt3, lt4⟩
      · intro p hp
        rw [hv_any]
        have e : (((hvL ns i).map Value.bool).toArray.push (.bool (ns.any fun z => decide (z ≤ i + 1) && (hvL ns i).getD (i + 1 - z) false))) = ((hvL ns (i + 1)).map Value.bool).toArray := by
          rw [hvL, List.map_append, List.push_toArray]; rfl
        rw [e]
        exact .tail _ (.tail _ hp)
      · intro p hp
        rcases List.mem_cons.mp hp with rfl | hp
        · have := hoff (hl, _) (.head _)
          exact this
        rcases List.mem_cons.mp hp with rfl | hp
        · have := hoff (L' + 1 + 1, _) (.tail _ (.head _))
          exact this
        · exact hoff p (.tail _ (.tail _ hp))
    · intro acc z
      dsimp only
      split <;> simp
  · rintro m₁ nx h tk ⟨hsz, hl, c, oK, oH, vK, rfl, dK, dH, lt1, lt2, lt3, lt4⟩ F3 N3
    have hvn := hvL_length ns 40
    unfold gapsOf at hret
    generalize hvL ns 40 = hv at *
    k_steps
    refine Stop.go ?_
    (with_reducible rename IsRange _ _ _ _ _ _ _ _ => hr5)
    (with_reducible rename News _ _ _ _ => N5)
    (with_reducible rename Fr _ _ _ _ => F5)
    refine LCt.CompSrcT.range (n := 41) rfl F5 N5 hr5 (by decide) (by decide) (by rw [sizeLine_eq]; decide) (fun g5 => ?_)
    refine kci_range (fun acc z => if !hv.getD z.toNat false then acc ++ [z] else acc) ?_ ?_ ?_
    · intro z tz I2 oI2 C2 oC2 D2 m₂ ys acc h5 tk5 E5 hlo hhi hys hC hx F6 N6 off6 ne6 mk
      k_steps
      refine item_litK (vs := hv.map Value.bool) (v := .bool (hv.getD z.toNat false)) (News.isList (by assumption) (by k_mem)) ?_ ?_ ?_ ?_
      · omega
      · omega
      · rw [List.getElem?_map, List.getD_eq_getElem?_getD, List.getElem?_eq_getElem (by rw [hvn]; omega)]; rfl
      · cases hv.getD z.toNat false
        · k_steps
          refine LCg.CompEnd.intro (by assumption) (by assumption) _ (fun p hp => hp) off6 trivial (kci_el rfl rfl rfl)
        · k_steps
          refine LCg.CompEnd.intro (by assumption) (by assumption) _ (fun p hp => hp) off6 trivial (kci_no rfl rfl)
    · unfold KPfDone
      intro ys hys hyl
      intro D h6 tk6 F6 N6 off6
      k_steps
      refine hret _ [(D, LCg.lst ys)] _ _ ⟨D, ys, rfl, rfl, ?_⟩ (by assumption) ?_
      rotate_left
      · (with_reducible rename News h₀ L _ _ => N8)
        exact news_sub N8 fun p hp => by
          rcases List.mem_cons.mp hp with rfl | hp
          · exact .head _
          · first | exact .tail _ hp | exact .tail _ (.tail _ (.tail _ (.tail _ hp)))
      · rw [foldl_filter, List.nil_append, rangeKs, List.filter_map] at hys
        have e : ((fun z : Int => !hv.getD z.toNat false) ∘ fun i : Nat => (0 : Int) + (i : Int)) = fun i : Nat => !hv.getD i false := by
          funext i
          show (!hv.getD (0 + (i : Int)).toNat false) = _
          rw [Int.zero_add, Int.toNat_natCast]
        rw [e] at hys
        rw [show (fun i : Nat => (0 : Int) + (i : Int)) = fun i : Nat => (i : Int) by funext i; rw [Int.zero_add]] at hys
        exact hys
    · intro acc z
      dsimp only
      split <;> simp
end
end S_MC5
section S_MC6
section
variable {w : World} {p : Program} {loose : List Str} {mean : ExcName → Option Value} {mg mb : Str → Option Value}
set_option maxHeartbeats 4000000

local macro_rules | `(tactic| walk_at "exec For Name Attribute cons nil") => `(tactic| (k_here; (with_reducible rename Fr _ _ _ _ => lF'); (with_unfolding_all refine' my_For lF' ?k1 ?k2 ?_; (case k1 => exact rfl); (case k2 => exact rfl); k_whole)))
noncomputable def bump (cnt : List Nat) (b : Nat) : List Nat := (if cnt.length ≤ b then cnt ++ List.replicate (b - cnt.length + 1) 0 else cnt).set b (cnt.getD b 0 + 1)
noncomputable def wsStep (σ : Nat × Nat × Nat × List Nat) (c : Nat) : Nat × Nat × Nat × List Nat :=
  if c = 32 then (σ.1 + 1, σ.2.1, σ.2.2.1 + 1, σ.2.2.2) else (σ.1 + 1, σ.2.1 + 1, 0, bump σ.2.2.2 σ.2.2.1)
noncomputable def wsAt (W : List Nat) : Nat × Nat × Nat × List Nat := W.foldl wsStep (0, 0, 0, [])
theorem wsAt_snoc {W : List Nat} {i c : Nat} (h : W[i]? = some c) : wsAt (W.take (i + 1)) = wsStep (wsAt (W.take i)) c := by
  unfold wsAt
  rw [List.take_add_one, h, List.foldl_append]
  rfl
theorem bump_length (cnt : List Nat) (b : Nat) : (bump cnt b).length ≤ max cnt.length (b + 1) := by
  unfold bump
  rw [List.length_set]
  split
  · rw [List.length_append, List.length_replicate]; omega
  · omega
theorem wsAt_le (W : List Nat) (i : Nat) (hi : i ≤ W.length) : (wsAt (W.take i)).1 ≤ i ∧ (wsAt (W.take i)).2.1 ≤ i ∧ (wsAt (W.take i)).2.2.1 ≤ i ∧ (wsAt (W.take i)).2.2.2.length ≤ i := by
  induction i with
  | zero => exact ⟨Nat.le_refl _, Nat.le_refl _, Nat.le_refl _, Nat.le_refl _⟩
  | succ i ih =>
    have ih := ih (by omega)
    rw [wsAt_snoc (List.getElem?_eq_getElem (show i < W.length by omega))]
    generalize wsAt (W.take i) = σ at *
    obtain ⟨n, nt, b, cnt⟩ := σ
    dsimp only at ih
    unfold wsStep
    split
    · dsimp only; omega
    · have := bump_length cnt b
      dsimp only
      omega
theorem flat0 (n : Nat) : (List.replicate n [(0 : Int)]).flatten = List.replicate n 0 := by
  induction n with
  | zero => rfl
  | succ n ih => rw [List.replicate_succ, List.flatten_cons, ih, List.replicate_succ]; rfl
theorem bump_new (cnt : List Nat) (b : Nat) (h : cnt.length ≤ b) : ((cnt.map (fun n : Nat => (n : Int)) ++ (List.replicate ((b : Int) - ((cnt.map (fun n : Nat => (n : Int))).length : Int) + 1).toNat [(0 : Int)]).flatten).set (b : Int).toNat (0 + 1)) = (bump cnt b).map fun n : Nat => (n : Int) := by
  unfold bump
  rw [if_pos h, List.map_set, List.map_append, List.map_replicate, flat0, Int.toNat_natCast, List.length_map, show ((b : Int) - (cnt.length : Int) + 1).toNat = b - cnt.length + 1 by omega, List.getD_eq_getElem?_getD, List.getElem?_eq_none h]
  rfl
theorem getD_map0 (cnt : List Nat) (b : Nat) : (cnt.map (fun n : Nat => (n : Int))).getD b 0 = ((cnt.getD b 0 : Nat) : Int) := by
  rw [List.getD_eq_getElem?_getD, List.getElem?_map, List.getD_eq_getElem?_getD]
  cases cnt[b]? <;> rfl
theorem bump_old (cnt : List Nat) (b : Nat) (h : b < cnt.length) : (cnt.map (fun n : Nat => (n : Int))).set (b : Int).toNat ((cnt.map (fun n : Nat => (n : Int))).getD (b : Int).toNat 0 + 1) = (bump cnt b).map fun n : Nat => (n : Int) := by
  unfold bump
  rw [if_neg (by omega), List.map_set, Int.toNat_natCast, getD_map0]
  rfl
theorem drop2 {h₀ h : Heap} {L : Addr} {a b : Addr × Obj} {r : List (Addr × Obj)} (N : News h₀ L h (a :: b :: r)) : News h₀ L h (a :: r) :=
  news_sub N fun p hp => by
    rcases List.mem_cons.mp hp with rfl | hp
    · exact .head _
    · exact .tail _ (.tail _ hp)
noncomputable abbrev tupO (a : Array Value) : Obj := { cls := .type "tuple", data := .seq a }
/-- what a lead is made of -/
noncomputable def WsR (w : World) (x : Str) (tx : Tok) (σ : Nat × Nat × Nat × List Nat) (o : Addr) (own : List (Addr × Obj)) : Prop :=
  ∃ (d tn tc : Addr) (vs : List Value) (t1 t2 u2 t3 u3 t4 t5 ub : Tok) (sb : Bool), own = [(tn, tupO #[.ref tc, .int ((σ.2.2.1 : Nat) : Int) ub]), (tc, tupO vs.toArray), (o, instObj 83 d),
    (d, dictOf [⟨PyData.keyHash w.params (Str.ofString "raw"), .str (Str.ofString "raw") t1, .str x tx⟩, ⟨PyData.keyHash w.params (Str.ofString "n"), .str (Str.ofString "n") t2, .int ((σ.1 : Nat) : Int) u2⟩,
      ⟨PyData.keyHash w.params (Str.ofString "nt"), .str (Str.ofString "nt") t3, .int ((σ.2.1 : Nat) : Int) u3⟩, ⟨PyData.keyHash w.params (Str.ofString "norm"), .str (Str.ofString "norm") t4, .ref tn⟩,
      ⟨PyData.keyHash w.params (Str.ofString "is_simple"), .str (Str.ofString "is_simple") t5, .bool sb⟩] 5)] ∧ IntsAre vs (σ.2.2.2.map fun n : Nat => (n : Int))
theorem drop3 {h₀ h : Heap} {L : Addr} {a b c : Addr × Obj} {r : List (Addr × Obj)} (N : News h₀ L h (a :: b :: c :: r)) : News h₀ L h (a :: b :: r) :=
  news_sub N fun p hp => by
    rcases List.mem_cons.mp hp with rfl | hp
    · exact .head _
    rcases List.mem_cons.mp hp with rfl | hp
    · exact .tail _ (.head _)
    exact .tail _ (.tail _ (.tail _ hp))
theorem mc_ws (x : Str) (tx : Tok) (W : List Nat) (hx : x.cps.toList = W ++ [120, 32, 9]) (hW : ∀ c ∈ W, c = 32 ∨ c = 9) (hl : W.length ≤ 1000) :
    MC w p loose mean mg mb 1 83 [] [.str x tx] (fun v own _ => ∃ o, v = .ref o ∧ WsR w x tx (wsAt W) o own) := by
  w_top off
  unfold MC
  intro news dp un gd cn cs a0 ccd cl outer A₀ base h₀ L m s Q E B F X N T hk hd hu hret
  k_dflt (refine' call_cls ?k1 ?k2 ?k3 ?k4 ?k5 ?k6 ?_)
  (case k1 => k_asm)
  (case k2 => k_asm)
  (case k3 => k_asm)
  (case k4 => k_is)
  (case k5 => k_is)
  (case k6 => k_is)
  k_whole
  intro o d h₁ F₁ N₁ l1 l2
  simp only [List.nil_append] at N₁ l1
  have q1 : ∀ p ∈ news, p.1 ≠ d := fun p hp => Nat.ne_of_lt (l1 p hp)
  have q2 : ∀ p ∈ news, p.1 ≠ o := fun p hp => Nat.ne_of_lt (Nat.lt_trans (l1 p hp) l2)
  have q3 : d ≠ o := Nat.ne_of_lt l2
  have q4 : o ≠ d := Nat.ne_of_gt l2
  k_dflt refine' code_def ?k1 ?k2 ?k3 ?k4 ?k5 ?kA ?kF ?kK ?k6 ?k7 ?k8 ?k9 ?kB ?_ ?c2 ?c3 ?c4 ?c5
  (case kA => exact rfl)
  (case kF => exact rfl)
  (case kK => assumption)
  (case k1 => k_asm)
  (case k2 => k_asm)
  (case k3 => k_asm)
  (case k4 => k_asm)
  (case k5 => k_asm)
  (case k6 => k_is)
  (case k7 => k_is)
  (case k8 => ktr_room)
  (case k9 => k_dflt first | exact BindsTo.of_eq rfl | exact binds_K (by k_in) rfl (by k_is) rfl rfl rfl)
  (case c5 => decide)
  (case kB => exact locs rfl)
  (case c2 => exact rfl)
  (case c3 => exact rfl)
  (case c4 => exact rfl)
  k_whole
  intro g' L' h' FG' F' N' B' X' T'
  (try dsimp only)
  (try k_lift B')
  (try k_fold)
  k_steps
  refine Stop.go ?_
  (with_reducible rename News _ _ _ _ => N2)
  (with_reducible rename Fr _ _ _ _ => F2)
  (rename (_ ∧ _) => l3)
  rename_i ca _ _ _ _ _
  obtain ⟨tr, N2⟩ : ∃ tr, News g' L' _ ((ca, listOf #[] 0) :: (o, instObj 83 d) :: (d, dictOf [⟨PyData.keyHash w.params (Str.ofString "raw"), .str (Str.ofString "raw") tr, .str x tx⟩] 1) :: news) := ⟨_, drop2 N2⟩
  refine text_loopO (fun i m nx => i ≤ W.length ∧ m (Str.ofString "self") = some (.ref o) ∧ (∃ t, m (Str.ofString "S") = some (.str (Str.ofString " ") t)) ∧ (∃ t, m (Str.ofString "T") = some (.str (Str.ofString "\t") t)) ∧
    (∃ t, m (Str.ofString "n") = some (.int ((wsAt (W.take i)).1 : Nat) t)) ∧ (∃ t, m (Str.ofString "nt") = some (.int ((wsAt (W.take i)).2.1 : Nat) t)) ∧ (∃ t, m (Str.ofString "b") = some (.int ((wsAt (W.take i)).2.2.1 : Nat) t)) ∧
    ∃ c vs k tr, m (Str.ofString "count") = some (.ref c) ∧ IntsAre vs ((wsAt (W.take i)).2.2.2.map fun n : Nat => (n : Int)) ∧ o < c ∧ d < c ∧ AllLt c news ∧ nx = (c, listOf vs.toArray k) :: (o, instObj 83 d) :: (d, dictOf [⟨PyData.keyHash w.params (Str.ofString "raw"), .str (Str.ofString "raw") tr, .str x tx⟩] 1) :: news)
    rfl F2 N2 ⟨Nat.zero_le _, rfl, ⟨_, rfl⟩, ⟨_, rfl⟩, ⟨_, rfl⟩, ⟨_, rfl⟩, ⟨_, rfl⟩, _, [], 0, _, rfl, .nil, l3.2.1, l3.2.2.1, l3.2.2.2, rfl⟩ ?_ ?_
  · rintro I i ch tch m₁ nx h tk own hI hch ⟨hiW, pself, ⟨tS, pS⟩, ⟨tT, pT⟩, ⟨tn, pn⟩, ⟨tnt, pnt⟩, ⟨tbb, pb⟩, c, vs, k, tr, pc, hvs, loc, ldc, lnc, rfl⟩ hoff hown ⟨oI, hIo⟩ F3 N3
    replace F3 := fr_pin F3 (x := Str.ofString "self") (by exact pself)
    replace F3 := fr_pin F3 (x := Str.ofString "S") (by exact pS)
    replace F3 := fr_pin F3 (x := Str.ofString "T") (by exact pT)
    replace F3 := fr_pin F3 (x := Str.ofString "n") (by exact pn)
    replace F3 := fr_pin F3 (x := Str.ofString "nt") (by exact pnt)
    replace F3 := fr_pin F3 (x := Str.ofString "b") (by exact pb)
    replace F3 := fr_pin F3 (x := Str.ofString "count") (by exact pc)
    simp only [List.cons_append] at N3
    have hcs : x.cps.toList[i]? = some ch := by simpa using hch
    rw [hx] at hcs
    have hnsz : (wsAt (W.take i)).1 ≤ 1000 ∧ (wsAt (W.take i)).2.1 ≤ 1000 ∧ (wsAt (W.take i)).2.2.1 ≤ 1000 ∧ (wsAt (W.take i)).2.2.2.length ≤ 1001 := by
      have := wsAt_le W i hiW
      omega
    obtain ⟨b1, b2, b3, b4⟩ := hnsz
    rcases Nat.lt_or_eq_of_le hiW with hlt | rfl
    · have hWi : W[i]? = some ch := by rwa [List.getElem?_append_left hlt] at hcs
      have hst := wsAt_snoc hWi
      rcases hW ch (List.mem_of_getElem? hWi) with rfl | rfl
      · generalize wsAt (W.take i) = σ at *
        obtain ⟨n, nt, b, cnt⟩ := σ
        dsimp only at *
        k_steps
        refine LEnd.intro (by assumption) (by assumption) (news' := (c, listOf vs.toArray k) :: (o, instObj 83 d) :: (d, dictOf [⟨PyData.keyHash w.params (Str.ofString "raw"), .str (Str.ofString "raw") tr, .str x tx⟩] 1) :: news) (fun p hp => hp) hoff ?_
        rw [hst]
        exact ⟨hlt, rfl, ⟨_, rfl⟩, ⟨_, rfl⟩, ⟨_, rfl⟩, ⟨_, rfl⟩, ⟨_, rfl⟩, c, vs, k, tr, rfl, hvs, loc, ldc, lnc, rfl⟩
      · generalize wsAt (W.take i) = σ at *
        obtain ⟨n, nt, b, cnt⟩ := σ
        dsimp only at *
        k_steps
        · (with_reducible rename News _ _ _ _ => N9)
          (with_reducible rename Fr _ _ _ _ => F9)
          (with_reducible rename IntsAre _ (_ ++ _) => hI9)
          (rename (_ < _ ∧ _) => l9)
          rename_i D9 ws9 _ _ _ _
          have hle : cnt.length ≤ b := by
            have := (show (((cnt.map fun n : Nat => (n : Int)).length : Nat) : Int) ≤ (b : Int) by assumption)
            rw [List.length_map] at this
            omega
          have hlen : (b : Int) < ((cnt.map (fun n : Nat => (n : Int)) ++ (List.replicate ((b : Int) - ((cnt.map (fun n : Nat => (n : Int))).length : Int) + 1).toNat [(0 : Int)]).flatten).length : Int) := by
            rw [flat0, List.length_append, List.length_map, List.length_replicate]
            omega
          have hbn := bump_new cnt b hle
          refine ksa_set F9 N9 (.head ?_) hI9 (by omega) hlen (by omega) (fun h8 F8 N8 hi8 _ _ => ?_)
          · intro p hp
            rcases List.mem_cons.mp hp with rfl | hp
            · exact Nat.ne_of_lt l9.1
            rcases List.mem_cons.mp hp with rfl | hp
            · exact Nat.ne_of_lt l9.2.1
            rcases List.mem_cons.mp hp with rfl | hp
            · exact Nat.ne_of_lt l9.2.2.1
            rcases List.mem_cons.mp hp with rfl | hp
            · exact Nat.ne_of_lt l9.2.2.2.1
            rcases List.mem_cons.mp hp with rfl | hp
            · exact Nat.ne_of_lt l9.2.2.2.2.1
            exact Nat.ne_of_lt (allLt_mem l9.2.2.2.2.2 p hp)
          · rw [hbn] at hi8
            have a9 := l9.2.2.2
            clear hbn hlen
            obtain ⟨vs9, hvs9, N8'⟩ : ∃ vs9, IntsAre vs9 ((bump cnt b).map fun n : Nat => (n : Int)) ∧ News g' L' h8 ((D9, listOf vs9.toArray 0) :: (o, instObj 83 d) :: (d, dictOf [⟨PyData.keyHash w.params (Str.ofString "raw"), .str (Str.ofString "raw") tr, .str x tx⟩] 1) :: (news ++ own)) := ⟨_, hi8, drop2 (drop2 (drop2 N8))⟩
            k_steps
            refine LEnd.intro (by assumption) (by assumption) (news' := (D9, listOf vs9.toArray 0) :: (o, instObj 83 d) :: (d, dictOf [⟨PyData.keyHash w.params (Str.ofString "raw"), .str (Str.ofString "raw") tr, .str x tx⟩] 1) :: news) (fun p hp => hp) ?_ ?_
            · intro p hp
              rcases List.mem_cons.mp hp with rfl | hp
              · have hIn : D9 ≠ I := Nat.ne_of_gt (allLt_mem a9.2.2 (I, oI) (List.mem_append_right _ hIo))
                exact fun e => hIn (List.mem_singleton.mp e)
              · exact hoff p (.tail _ hp)
            · rw [hst]
              exact ⟨hlt, rfl, ⟨_, rfl⟩, ⟨_, rfl⟩, ⟨_, rfl⟩, ⟨_, rfl⟩, ⟨_, rfl⟩, D9, vs9, 0, tr, rfl, hvs9, a9.1, a9.2.1, allLt_of (fun p hp => allLt_mem a9.2.2 p (List.mem_append_left _ hp)), rfl⟩
        · (with_reducible rename News _ _ _ _ => N9)
          (with_reducible rename Fr _ _ _ _ => F9)
          have hle : b < cnt.length := by
            have := (show ¬ (((cnt.map fun n : Nat => (n : Int)).length : Nat) : Int) ≤ (b : Int) by assumption)
            rw [List.length_map] at this
            omega
          have hlen : (b : Int) < ((cnt.map (fun n : Nat => (n : Int))).length : Int) := by
            rw [List.length_map]
            omega
          have hbn := bump_old cnt b hle
          refine ksa_set F9 N9 (.head ?_) hvs (by omega) hlen (by omega) (fun h8 F8 N8 hi8 _ _ => ?_)
          · intro p hp
            rcases List.mem_cons.mp hp with rfl | hp
            · exact Nat.ne_of_lt loc
            rcases List.mem_cons.mp hp with rfl | hp
            · exact Nat.ne_of_lt ldc
            rcases List.mem_append.mp hp with hp | hp
            · exact Nat.ne_of_lt (allLt_mem lnc p hp)
            · rw [hown p hp]
              have := hoff (c, _) (.head _)
              exact fun e => this (List.mem_singleton.mpr e.symm)
          · rw [hbn] at hi8
            clear hbn hlen
            obtain ⟨vs9, hvs9, N8'⟩ : ∃ vs9, IntsAre vs9 ((bump cnt b).map fun n : Nat => (n : Int)) ∧ News g' L' h8 ((c, listOf vs9.toArray k) :: (o, instObj 83 d) :: (d, dictOf [⟨PyData.keyHash w.params (Str.ofString "raw"), .str (Str.ofString "raw") tr, .str x tx⟩] 1) :: (news ++ own)) := ⟨_, hi8, N8⟩
            k_steps
            refine LEnd.intro (by assumption) (by assumption) (news' := (c, listOf vs9.toArray k) :: (o, instObj 83 d) :: (d, dictOf [⟨PyData.keyHash w.params (Str.ofString "raw"), .str (Str.ofString "raw") tr, .str x tx⟩] 1) :: news) (fun p hp => hp) ?_ ?_
            · intro p hp
              rcases List.mem_cons.mp hp with rfl | hp
              · have := hoff (c, _) (.head _)
                exact this
              · exact hoff p (.tail _ hp)
            · rw [hst]
              exact ⟨hlt, rfl, ⟨_, rfl⟩, ⟨_, rfl⟩, ⟨_, rfl⟩, ⟨_, rfl⟩, ⟨_, rfl⟩, c, vs9, k, tr, rfl, hvs9, loc, ldc, lnc, rfl⟩
    · have hch' : ch = 120 := by
        rw [List.getElem?_append_right (Nat.le_refl _), Nat.sub_self] at hcs
        exact (Option.some.inj hcs).symm
      subst hch'
      rw [List.take_length] at F3 hvs b1 b2 b3 b4
      replace N3 : News g' _ h ((c, listOf vs.toArray k) :: (o, instObj 83 d) :: (d, dictOf [⟨PyData.keyHash w.params (Str.ofString "raw"), .str (Str.ofString "raw") tr, .str x tx⟩] 1) :: news) := news_sub N3 fun p hp => by
        rcases List.mem_cons.mp hp with rfl | hp
        · exact .head _
        rcases List.mem_cons.mp hp with rfl | hp
        · exact .tail _ (.head _)
        rcases List.mem_cons.mp hp with rfl | hp
        · exact .tail _ (.tail _ (.head _))
        exact .tail _ (.tail _ (.tail _ (List.mem_append_left _ hp)))
      have hoc : o ≠ c := Nat.ne_of_lt loc
      have hdc : d ≠ c := Nat.ne_of_lt ldc
      have hco : c ≠ o := Nat.ne_of_gt loc
      have hcd : c ≠ d := Nat.ne_of_gt ldc
      have hnc : ∀ p ∈ news, p.1 ≠ c := fun p hp => Nat.ne_of_lt (allLt_mem lnc p hp)
      k_steps
      (with_reducible rename News _ _ _ _ => N9)
      (with_reducible rename Fr _ _ _ _ => F9)
      rename_i tc _ _ _ tn _
      have a1 : tc ≠ d := news_apart N9 (.tail _ (.head _)) (.tail _ (.tail _ (.tail _ (.tail _ (.head _))))) (fun e => absurd (Value.type.inj e) (by decide))
      k_steps
      (with_reducible rename News h₀ L _ _ => N8)
      refine hret _ [_, _, _, _] _ _ ⟨o, rfl, d, _, _, vs, _, _, _, _, _, _, _, _, _, rfl, hvs⟩ (by assumption) (drop3 N8)
  · rintro m₁ nx h tk ⟨hiW, _⟩
    have hsz : x.cps.size = W.length + 3 := by rw [← Array.length_toList, hx, List.length_append]; rfl
    omega
end
end S_MC6
section S_MC7
section
variable {w : World} {p : Program} {loose : List Str} {mean : ExcName → Option Value} {mg mb : Str → Option Value}
set_option maxHeartbeats 4000000

local macro_rules | `(tactic| walk_at "CompSrc") => `(tactic| (refine Stop.out ?_))
local macro_rules | `(tactic| walk_at "call builtin:str.join") => `(tactic| (refine Stop.out ?_))
local macro_rules | `(tactic| walk_at "eval ListComp") => `(tactic| (k_here; k_dflt (refine LCg.ListComp_U (F₀ := by k_asm) (by rfl) (by decide) (by rfl) (by decide) (by rfl) ?_)))
theorem mc_lead (l : Addr) (n : Nat) (vs : List Value) (rs : List Nat) (bh : Nat) (tb : Tok) (hi : IntsAre vs (rs.map fun n : Nat => (n : Int))) (hb : ∀ a ∈ rs, a ≤ 40) (hl : rs.length ≤ 20) (hbh : bh ≤ 40) :
    MC w p loose mean mg mb 3 237 [(l, listOf vs.toArray n)] [.ref l, .int (bh : Int) tb] (fun v own _ => ∃ o x tx, v = .ref o ∧ WsR w x tx (wsAt (leadW rs bh)) o own) := by
  w_top off
  unfold MC
  intro news dp un gd cn cs a0 ccd cl outer A₀ base h₀ L m s Q E B F X N T hk hd hu hret
  walk_at "MYENTER"
  k_steps
  refine Stop.go ?_
  (with_reducible rename News _ _ _ _ => N5)
  (with_reducible rename Fr _ _ _ _ => F5)
  refine LCg.CompSrc.ledger rfl F5 N5 (ax := l) (its := vs.toArray) (k := n) (by k_mem) (by rw [sizeLine_eq, List.size_toArray, hi.length, List.length_map]; omega) (fun g5 => ?_)
  refine kct_list (fun k => Txt.mul (Str.ofString " ") k ++ Str.ofString "\t") hi ?_ ?_
  · intro z tz I2 oI2 C2 oC2 D2 m₂ ys h5 tk5 E5 hz hC hx F6 N6 off6 ne6 mk
    obtain ⟨z, hzn, rfl⟩ := List.mem_map.mp hz
    have hz1 := hb z hzn
    k_steps
    refine LCg.CompEnd.intro (by assumption) (by assumption) _ (fun p hp => hp) off6 (.inr ⟨_, by k_mem, rfl, _, rfl⟩) (kct_el rfl rfl rfl)
  · unfold KPfDone
    intro ys hys hyl
    intro D h6 tk6 F6 N6 off6
    k_steps
    refine Stop.go ?_
    refine join_listC (News.isList (by assumption) (by k_mem)) (StrsAre.of_carried (ys := (rs.map fun r : Nat => Txt.mul (Str.ofString " ") (r : Int) ++ Str.ofString "\t")) ?_) (by decide) ?_ (fun t7 k7 => ?_)
    · rw [List.map_map] at hys ⊢
      exact hys
    · have h1 := sum_len rs hb
      have h2 : (rs.map fun r : Nat => Txt.mul (Str.ofString " ") (r : Int) ++ Str.ofString "\t").length = rs.length := List.length_map _
      omega
    have hxj := runs_cps rs
    have hjl : (Txt.join (Str.ofString "") (rs.map fun r : Nat => Txt.mul (Str.ofString " ") (r : Int) ++ Str.ofString "\t")).length ≤ 820 := by
      rw [len_cps, hxj]
      have := flat_len rs hb
      omega
    generalize Txt.join (Str.ofString "") (rs.map fun r : Nat => Txt.mul (Str.ofString " ") (r : Int) ++ Str.ofString "\t") = xj at *
    k_steps
    have hxm := mul_len bh
    have hml : (Txt.mul (Str.ofString " ") (bh : Int)).length ≤ 40 := by
      rw [len_cps, hxm, List.length_replicate]
      exact hbh
    generalize Txt.mul (Str.ofString " ") (bh : Int) = xm at *
    k_steps
    k_dflt (refine' mc_use (mc_ws _ _ (leadW rs bh) ?ka ?kb ?kc) ?k1 ?k2 ?k3 ?k4 ?k5 ?k6 ?k7 ?k8 ?k9 ?_)
    case ka =>
      rw [cpsA, cpsA, hxj, hxm, x_cps]; rfl
    case kb => exact leadW_in rs bh
    case kc =>
      have := flat_len rs hb
      unfold leadW
      rw [List.length_append, List.length_replicate]
      omega
    case k7 => exact fun _ h => nomatch h
    (case k1 => k_asm)
    (case k2 => k_asm)
    (case k3 => k_asm)
    (case k4 => k_asm)
    (case k5 => k_asm)
    (case k6 => first | exact rfl | assumption)
    (case k8 => ktr_room)
    (case k9 => ktr_units)
    k_whole
    rintro v own h8 tk8 hle8 ⟨o, rfl, hWs⟩ F8 N8
    k_steps
    (with_reducible rename News h₀ L _ _ => N9)
    refine hret _ own _ _ ⟨o, _, _, rfl, hWs⟩ (by assumption) (news_sub N9 fun p hp => ?_)
    rcases List.mem_append.mp hp with hp | hp
    · exact List.mem_append_left _ hp
    · exact List.mem_append_right _ (.tail _ hp)
end
end S_MC7
section S_MC8
section
variable {w : World} {p : Program} {loose : List Str} {mean : ExcName → Option Value} {mg mb : Str → Option Value}
set_option maxHeartbeats 4000000

noncomputable def ilSum (tab : Nat) (cnt : List Nat) : Nat → Nat
  | 0 => 0
  | i + 1 => ilSum tab cnt i + (tab + i) / tab * cnt.getD (tab + i) 0
theorem getD_map0' (cnt : List Nat) (b : Nat) : (cnt.map (fun n : Nat => (n : Int))).getD b 0 = ((cnt.getD b 0 : Nat) : Int) := getD_map0 cnt b
theorem mc_longest (x : Str) (tx : Tok) (σ : Nat × Nat × Nat × List Nat) (o : Addr) (own : List (Addr × Obj)) (h : WsR w x tx σ o own) (hl : σ.2.2.2.length ≤ 1000) :
    MCV w p loose mean mg mb 1 45 own [.ref o] (fun t => .int (max ((σ.2.2.2.length : Int) - 1) (σ.2.2.1 : Int)) t) := by
  w_top off
  obtain ⟨n, nt, b, cnt⟩ := σ
  obtain ⟨d, tn, tc, vs, t1, t2, u2, t3, u3, t4, t5, ub, sb, rfl, hvs⟩ := h
  dsimp only [tupO] at *
  unfold MCV MC
  intro news dp un gd cn cs a0 ccd cl outer A₀ base h₀ L m s Q E B F X N T hk hd hu hret
  simp only [List.cons_append, List.nil_append] at N hret
  have hsz : vs.toArray.size = cnt.length := by rw [List.size_toArray, hvs.length, List.length_map]
  walk_at "MYENTER"
  k_steps
  refine hret _ [] _ _ ⟨rfl, _, congr (congrArg Value.int ?_) rfl⟩ (by assumption) (by assumption)
  try simp only [List.length_map]
  split <;> omega
theorem map_cast_inj (x y : List Nat) : x.map (fun n : Nat => (n : Int)) = y.map (fun n : Nat => (n : Int)) ↔ x = y := by
  constructor
  · intro h
    induction x generalizing y with
    | nil => cases y with
      | nil => rfl
      | cons b y => cases h
    | cons a x ih => cases y with
      | nil => cases h
      | cons b y =>
        simp only [List.map_cons, List.cons.injEq] at h
        rw [ih y h.2, Int.ofNat.inj h.1]
  · rintro rfl; rfl
theorem shaped_pair (ns : List Int) (b : Int) : SeqAt.shaped (.tuple [.tuple (ns.map PyData.int), .int b]) = true := by
  simp [SeqAt.shaped, PyData.canLay0, PyData.canLayAll0, PyData.depth, PyData.depthAll, ke_canLayAll0, ke_depthAll]
theorem eq_pair (b b' : Nat) (cnt cnt' : List Nat) : (decide (cnt.map (fun n : Nat => (n : Int)) = cnt'.map (fun n : Nat => (n : Int))) && ((b : Int) == (b' : Int))) = decide ((b, cnt) = (b', cnt')) := by
  have inj := map_cast_inj
  rw [Bool.eq_iff_iff]
  simp only [Bool.and_eq_true, decide_eq_true_eq, beq_iff_eq, inj, Prod.mk.injEq, Int.natCast_inj]
  exact And.comm
local macro_rules | `(tactic| walk_at "compareOp Eq ref ref") => `(tactic| (refine Stop.out ?_))
theorem mc_equal (x x' : Str) (tx tx' : Tok) (σ σ' : Nat × Nat × Nat × List Nat) (o o' : Addr) (own own' : List (Addr × Obj)) (h : WsR w x tx σ o own) (h' : WsR w x' tx' σ' o' own') (hl : σ.2.2.2.length ≤ 1000) (hl' : σ'.2.2.2.length ≤ 1000) :
    MCV w p loose mean mg mb 1 59 (own ++ own') [.ref o, .ref o'] (fun _ => .bool (decide (σ.2.2 = σ'.2.2))) := by
  w_top off
  obtain ⟨n, nt, b, cnt⟩ := σ
  obtain ⟨n', nt', b', cnt'⟩ := σ'
  obtain ⟨d, tn, tc, vs, t1, t2, u2, t3, u3, t4, t5, ub, sb, rfl, hvs⟩ := h
  obtain ⟨d', tn', tc', vs', t1', t2', u2', t3', u3', t4', t5', ub', sb', rfl, hvs'⟩ := h'
  dsimp only [tupO] at *
  unfold MCV MC
  intro news dp un gd cn cs a0 ccd cl outer A₀ base h₀ L m s Q E B F X N T hk hd hu hret
  simp only [List.cons_append, List.nil_append] at N hret
  walk_at "MYENTER"
  k_steps
  refine Stop.go ?_
  (with_reducible rename News _ _ _ _ => N9)
  refine PyProof.Rows.eq_dataH (da := .tuple [.tuple ((cnt.map fun n : Nat => (n : Int)).map PyData.int), .int (b : Int)]) (db := .tuple [.tuple ((cnt'.map fun n : Nat => (n : Int)).map PyData.int), .int (b' : Int)])
    (reads_tuple_at (N9.get (.head _)) rfl rfl (.cons (reads_tuple_at (N9.get (.tail _ (.head _))) rfl rfl (readsAll_of_ints hvs)) (.cons (.int _ _) .nil)))
    (reads_tuple_at (N9.get (.tail _ (.tail _ (.tail _ (.tail _ (.head _)))))) rfl rfl (.cons (reads_tuple_at (N9.get (.tail _ (.tail _ (.tail _ (.tail _ (.tail _ (.head _))))))) rfl rfl (readsAll_of_ints hvs')) (.cons (.int _ _) .nil))) ?_ ?_ ?_ ?_
  · exact shaped_pair _ _
  · exact shaped_pair _ _
  · ke_room
  · simp only [PyData.eqv, PyData.eqvAll, ked_eqvAll, Bool.and_true]
    rw [eq_pair]
    k_steps
    refine hret _ [] _ _ ⟨rfl, 0, rfl⟩ (by assumption) (by assumption)
theorem mc_indent (x : Str) (tx : Tok) (σ : Nat × Nat × Nat × List Nat) (o : Addr) (own : List (Addr × Obj)) (tab : Nat) (tt : Tok) (h : WsR w x tx σ o own) (hl : σ.2.2.2.length ≤ 1000) (hc : ∀ c ∈ σ.2.2.2, c ≤ 1000) (ht : tab ≤ 1000) (h0 : 0 < tab) :
    MCV w p loose mean mg mb 1 52 own [.ref o, .int (tab : Int) tt] (fun t => .int ((σ.2.2.1 + tab * (ilSum tab σ.2.2.2 (σ.2.2.2.length - tab) + σ.2.1) : Nat) : Int) t) := by
  w_top off
  obtain ⟨n, nt, b, cnt⟩ := σ
  obtain ⟨d, tn, tc, vs, t1, t2, u2, t3, u3, t4, t5, ub, sb, rfl, hvs⟩ := h
  dsimp only [tupO] at *
  unfold MCV MC
  intro news dp un gd cn cs a0 ccd cl outer A₀ base h₀ L m s Q E B F X N T hk hd hu hret
  simp only [List.cons_append, List.nil_append] at N hret
  walk_at "MYENTER"
  have hsz : vs.toArray.size = cnt.length := by rw [List.size_toArray, hvs.length, List.length_map]
  k_steps
  refine Stop.go ?_
  (with_reducible rename IsRange _ _ _ _ _ _ _ _ => hr)
  (with_reducible rename Fr _ _ _ _ => F3)
  (with_reducible rename News _ _ _ _ => N3)
  refine range_loopO (n := cnt.length - tab) (fun i m nx => nx = (tn, { cls := .type "tuple", data := .seq #[.ref tc, .int (b : Int) ub] }) :: (tc, { cls := .type "tuple", data := .seq vs.toArray }) :: (o, instObj 83 d) :: (d, dictOf [⟨PyData.keyHash w.params (Str.ofString "raw"), .str (Str.ofString "raw") t1, .str x tx⟩, ⟨PyData.keyHash w.params (Str.ofString "n"), .str (Str.ofString "n") t2, .int (n : Int) u2⟩, ⟨PyData.keyHash w.params (Str.ofString "nt"), .str (Str.ofString "nt") t3, .int (nt : Int) u3⟩, ⟨PyData.keyHash w.params (Str.ofString "norm"), .str (Str.ofString "norm") t4, .ref tn⟩, ⟨PyData.keyHash w.params (Str.ofString "is_simple"), .str (Str.ofString "is_simple") t5, .bool sb⟩] 5) :: news ∧ (∃ t, m (Str.ofString "il") = some (.int ((ilSum tab cnt i : Nat) : Int) t)) ∧ m (Str.ofString "count") = some (.ref tc) ∧ (∃ t, m (Str.ofString "tabsize") = some (.int (tab : Int) t)) ∧ (∃ t, m (Str.ofString "trailing") = some (.int (b : Int) t)) ∧ m (Str.ofString "self") = some (.ref o)) rfl hr ?_ ?_ F3 N3 ⟨rfl, ⟨_, rfl⟩, rfl, ⟨_, rfl⟩, ⟨_, rfl⟩, rfl⟩ ?_ ?_
  · try simp only [List.length_map]
    exact small_one (by omega) (by omega) (by omega) (by omega)
  · try simp only [List.length_map]
    rw [rangeSize_nat]
    omega
  · rintro I i ti m₁ nx h tk own hi hI ⟨rfl, ⟨til, pil⟩, pc, ⟨ttb, ptb⟩, ⟨ttr, ptr⟩, pself⟩ hoff hown ⟨oI, hIo⟩ F4 N4
    replace F4 := fr_pin F4 (x := Str.ofString "il") (by exact pil)
    replace F4 := fr_pin F4 (x := Str.ofString "count") (by exact pc)
    replace F4 := fr_pin F4 (x := Str.ofString "tabsize") (by exact ptb)
    replace F4 := fr_pin F4 (x := Str.ofString "trailing") (by exact ptr)
    replace F4 := fr_pin F4 (x := Str.ofString "self") (by exact pself)
    k_steps
    have e1 : ((tab : Int) + (i : Int)).fdiv (tab : Int) = (((tab + i) / tab : Nat) : Int) := by
      rw [Int.fdiv_eq_ediv_of_nonneg _ (by omega)]; rfl
    have e2 : (cnt.map fun n : Nat => (n : Int)).getD ((tab : Int) + (i : Int)).toNat 0 = ((cnt.getD (tab + i) 0 : Nat) : Int) := by
      rw [show ((tab : Int) + (i : Int)).toNat = tab + i by omega, getD_map0]
    rw [e1, e2]
    have b1 : (tab + i) / tab ≤ 1000 := Nat.le_trans (Nat.div_le_self ..) (by omega)
    have b2 : cnt.getD (tab + i) 0 ≤ 1000 := by
      rw [List.getD_eq_getElem?_getD, List.getElem?_eq_getElem (by omega)]
      exact hc _ (List.getElem_mem _)
    have e3 : ilSum tab cnt (i + 1) = ilSum tab cnt i + (tab + i) / tab * cnt.getD (tab + i) 0 := rfl
    generalize (tab + i) / tab = y1 at *
    generalize cnt.getD (tab + i) 0 = y2 at *
    k_steps
    refine LEnd.intro (by assumption) (by assumption) (fun p hp => hp) hoff ?_
    have e4 : ((ilSum tab cnt (i + 1) : Nat) : Int) = ((ilSum tab cnt i : Nat) : Int) + (y1 : Int) * (y2 : Int) := by
      rw [e3]; simp
    dsimp only
    rw [e4]
    exact ⟨rfl, ⟨_, rfl⟩, rfl, ⟨_, rfl⟩, ⟨_, rfl⟩, rfl⟩
  · rintro m₁ nx h tk ⟨rfl, ⟨til, pil⟩, pc, ⟨ttb, ptb⟩, ⟨ttr, ptr⟩, pself⟩ F4 N4
    replace F4 := fr_pin F4 (x := Str.ofString "il") (by exact pil)
    replace F4 := fr_pin F4 (x := Str.ofString "count") (by exact pc)
    replace F4 := fr_pin F4 (x := Str.ofString "tabsize") (by exact ptb)
    replace F4 := fr_pin F4 (x := Str.ofString "trailing") (by exact ptr)
    replace F4 := fr_pin F4 (x := Str.ofString "self") (by exact pself)
    k_steps
    refine hret _ [] _ _ ⟨rfl, _, congr (congrArg Value.int ?_) rfl⟩ (by assumption) (by assumption)
    simp
end
end S_MC8
section S_PL1
noncomputable def meanT : List Str := [Str.ofString "k", Str.ofString "s", Str.ofString "t", Str.ofString "kk", Str.ofString "ss", Str.ofString "st", Str.ofString "ffi", Str.ofString "tel", Str.ofString "ppm"]
noncomputable def codeN (f kd : Nat) : Nat :=
  if kd > 2 then [13261, 223, 64261 + f % 2, 64259, 8481, 13273].getD (kd - 3) 0
  else if f < 13 then 119808 + 52 * f + [10, 18, 19].getD kd 0
  else 65 + 32 * (f - 13) + [10, 18, 19].getD kd 0
noncomputable def okSign (f kd : Nat) : Bool := !(b1S (codeN f kd : Nat)) && decide (b3F (codeN f kd) = meanT.getD kd Str.empty)
noncomputable def BESN : List Nat := [172, 174, 846, 848, 6149, 6151, 6154, 6158, 8202, 8206, 8287, 8289, 65278, 65280, 65023, 65040]
theorem u27_ok : (U27.all fun c => b1S c) = true := by decide +kernel
theorem stays_ok : (BESN.all fun c : Nat => !(b1S (c : Int)) && decide (b3F c = ⟨#[c]⟩)) = true := by decide +kernel
theorem signs_ok : ((List.range 15).all fun f => (List.range 9).all fun kd => okSign f kd) = true := by decide +kernel
end S_PL1
section S_PL2
open PySem PySem.W PyProof.Rows PySem.Spec PySem.Calls PySem.Builtin
theorem slice_drop (x : Str) (hx : 0 < x.length) : (Txt.slice x none (some (-1))).length = x.length - 1 := by
  have e : Str.strSliceIndices none (some (-1)) 1 x.length = Str.strSliceIndices (some ((0 : Nat) : Int)) (some ((x.length - 1 : Nat) : Int)) 1 x.length := by
    unfold Str.strSliceIndices
    have h1 : ((-1 : Int) < 0) := by decide
    have h2 : ¬ (((x.length - 1 : Nat) : Int) < 0) := by omega
    simp only [show (1 : Int) > 0 by decide, if_true, h1, h2, if_false]
    congr 1
    omega
  have hp := StrLaws.strSliceIndices_plain (a := 0) (b := x.length - 1) (len := x.length) (Nat.zero_le _) (by omega)
  have hs := StrLaws.sliced_plain x (a := 0) (b := x.length - 1) (Nat.zero_le _) (by omega)
  unfold Txt.slice
  rw [e, hp] at *
  rw [hs]
  have hl : ((List.range (x.length - 1 - 0)).map fun k => 0 + k).length = x.length - 1 := by simp
  rw [hl, if_neg (by simp; omega)]
  show ((x.cps.toList.drop 0).take (x.length - 1 - 0)).toArray.size = _
  rw [List.size_toArray, List.length_take, List.drop_zero]
  have : x.cps.toList.length = x.length := (len_cps x).symm
  omega
theorem prep_snoc (l : List Nat) (c : Nat) : prepF (l ++ [c]) = if b1S (c : Int) then prepF l else prepF l ++ b3F c := by
  unfold prepF
  rw [List.foldl_append]
  rfl
theorem u27_at (j : Nat) (hj : j < 27) : b1S (((U27.getD j 0).toNat : Nat) : Int) = true := by
  have h := List.all_eq_true.mp u27_ok (U27.getD j 0) (by rw [List.getD_eq_getElem?_getD, List.getElem?_eq_getElem (show j < U27.length from hj)]; exact List.getElem_mem _)
  rw [Int.toNat_of_nonneg (chrOk_U j).1]
  exact h
theorem code_eq (sp : Int) (i kd : Nat) (hk : kd < 9) : (codeF sp i (kd : Int)).toNat = codeN (formF sp i).toNat kd ∧ (formF sp i).toNat < 15 := by
  have h := fm (sp + (i : Int)) 15 (by decide)
  unfold codeF codeN
  have hf : formF sp i = (((formF sp i).toNat : Nat) : Int) := (Int.toNat_of_nonneg h.1).symm
  have h2 : (formF sp i).toNat < 15 := by unfold formF; omega
  generalize (formF sp i).toNat = f at *
  rw [hf]
  refine ⟨?_, h2⟩
  have key : ∀ f : Fin 15, ∀ k : Fin 9, (if (k : Nat) > 2 then ([13261, 223, 64261 + (f : Nat) % 2, 64259, 8481, 13273] : List Nat).getD (k - 3) 0 else if (f : Nat) < 13 then 119808 + 52 * (f : Nat) + [10, 18, 19].getD k 0 else 65 + 32 * ((f : Nat) - 13) + [10, 18, 19].getD k 0) =
      (if ((k : Nat) : Int) > 2 then ([13261, 223, 64261 + ((f : Nat) : Int).fmod 2, 64259, 8481, 13273] : List Int).getD (((k : Nat) : Int) - 3).toNat 0 else if ((f : Nat) : Int) < 13 then 119808 + 52 * ((f : Nat) : Int) + [10, 18, 19].getD ((k : Nat) : Int).toNat 0 else 65 + 32 * (((f : Nat) : Int) - 13) + [10, 18, 19].getD ((k : Nat) : Int).toNat 0).toNat := by decide +kernel
  exact (key ⟨f, h2⟩ ⟨kd, hk⟩).symm
theorem sign_prep (l : List Nat) (sp : Int) (i kd : Nat) (hk : kd < 9) : prepF (l ++ signsF sp i (kd : Int)) = prepF l ++ meanT.getD kd Str.empty := by
  obtain ⟨hc, hf⟩ := code_eq sp i kd hk
  have hok := List.all_eq_true.mp (List.all_eq_true.mp signs_ok _ (List.mem_range.mpr hf)) kd (List.mem_range.mpr hk)
  unfold okSign at hok
  have hok := Bool.and_eq_true_iff.mp hok
  have h1 : b1S ((codeN (formF sp i).toNat kd : Nat) : Int) = false := by simpa using hok.1
  have h2 := of_decide_eq_true hok.2
  have hh := fm (sp.fdiv 15 + 5 * (i : Int)) 29 (by decide)
  have main : ∀ l, prepF (l ++ [(codeF sp i (kd : Int)).toNat]) = prepF l ++ meanT.getD kd Str.empty := fun l => by
    rw [prep_snoc, hc, h1, if_neg (by decide), h2]
  unfold signsF
  by_cases hb : hidF sp i < 27
  · rw [if_pos hb, ← List.append_assoc, main, prep_snoc, u27_at _ (by unfold hidF at *; omega), if_pos rfl]
  · rw [if_neg hb, List.nil_append, main]
theorem typed_prep (R : List Nat) (sp : Int) (hR : ∀ k ∈ R, k < 9) : ∀ n, n ≤ R.length → (prepF (typedN sp (R.map fun n : Nat => (n : Int)) n)).cps.toList = (R.take n).flatMap fun k => (meanT.getD k Str.empty).cps.toList := by
  intro n
  induction n with
  | zero => intro _; rfl
  | succ n ih =>
    intro hn
    have hg : R[n]? = some R[n] := List.getElem?_eq_getElem (by omega)
    have hd : (R.map fun n : Nat => (n : Int)).getD n 0 = ((R[n] : Nat) : Int) := by
      rw [List.getD_eq_getElem?_getD, List.getElem?_map, hg]; rfl
    rw [typedN_succ, hd, sign_prep _ _ _ _ (hR _ (List.getElem_mem _)), cpsA, ih (by omega), List.take_add_one, hg, List.flatMap_append]
    simp
theorem bes_mem (j : Nat) (hj : j < 16) : (BESN.getD j 0) ∈ BESN := by
  rw [List.getD_eq_getElem?_getD, List.getElem?_eq_getElem (show j < BESN.length from hj)]; exact List.getElem_mem _
theorem prep_typed (R : List Nat) (sp : Int) (hR : ∀ k ∈ R, k < 9) (stay : Nat) (hs : stay ∈ BESN) :
    prepF (mkS (typedN sp (R.map fun n : Nat => (n : Int)) (R.map fun n : Nat => (n : Int)).length) ++ (⟨#[stay]⟩ : Str)).cps.toList = Txt.join (Str.ofString "") (R.map fun k => meanT.getD k Str.empty) ++ (⟨#[stay]⟩ : Str) := by
  have hok := List.all_eq_true.mp stays_ok stay hs
  have hok := Bool.and_eq_true_iff.mp hok
  have h1 : b1S ((stay : Nat) : Int) = false := by simpa using hok.1
  have h2 : b3F stay = ⟨#[stay]⟩ := of_decide_eq_true hok.2
  have hc : (mkS (typedN sp (R.map fun n : Nat => (n : Int)) (R.map fun n : Nat => (n : Int)).length) ++ (⟨#[stay]⟩ : Str)).cps.toList = typedN sp (R.map fun n : Nat => (n : Int)) R.length ++ [stay] := by
    rw [cpsA, List.length_map]
    rfl
  have cps_inj : ∀ a b : Str, a.cps.toList = b.cps.toList → a = b := fun a b h => Str.ext' (Array.toList_inj.mp h)
  rw [hc, prep_snoc, h1, if_neg (by decide), h2]
  congr 1
  refine cps_inj _ _ ?_
  rw [typed_prep R sp hR _ (Nat.le_refl _), List.take_length, join_cps, List.flatMap_map]
theorem join_len (R : List Nat) (hR : ∀ k ∈ R, k < 9) (f : Nat → Nat) (hf : ∀ z, z < 9 → (meanT.getD z Str.empty).length = f z) : (Txt.join (Str.ofString "") (R.map fun k => meanT.getD k Str.empty)).length = (R.map f).sum := by
  rw [len_cps, join_cps]
  induction R with
  | nil => rfl
  | cons a r ih =>
    rw [List.map_cons, List.flatMap_cons, List.length_append, ih fun k hk => hR k (.tail _ hk), ← len_cps, hf a (hR a (.head _)), List.map_cons, List.sum_cons]
end S_PL2
section S_PL3
noncomputable def pickIx (r m n : Nat) : List Nat := sliceRange (sliceBounds (some (0 + (r : Int))) none (some (m : Int)) n).1 (sliceBounds (some (0 + (r : Int))) none (some (m : Int)) n).2.1 (sliceBounds (some (0 + (r : Int))) none (some (m : Int)) n).2.2
noncomputable def pickI {α : Type} (l : List α) (r m : Nat) : List α := (pickIx r m l.length).filterMap (l[·]?)
theorem pick_ints {vs : List Value} {ns : List Int} (h : IntsAre vs ns) (idx : List Nat) : IntsAre (idx.filterMap (vs[·]?)) (idx.filterMap (ns[·]?)) := by
  induction idx with
  | nil => exact .nil
  | cons i r ih =>
    cases hv : vs[i]? with
    | none =>
      have hn : ns[i]? = none := by
        rw [List.getElem?_eq_none_iff] at hv ⊢
        rw [← h.length]; exact hv
      rw [List.filterMap_cons_none hv, List.filterMap_cons_none hn]
      exact ih
    | some v =>
      obtain ⟨k, t, rfl, hk⟩ := h.at i v hv
      rw [List.filterMap_cons_some hv, List.filterMap_cons_some hk]
      exact .cons k t ih
theorem pick_eq (vs : List Value) (r m : Nat) : (slicePick vs.toArray (some (0 + (r : Int))) none (some (m : Int))).toList = pickI vs r m := by
  unfold slicePick pickI pickIx
  simp
theorem pick_mem {α : Type} {l : List α} {r m : Nat} {v : α} (h : v ∈ pickI l r m) : v ∈ l := by
  obtain ⟨i, _, e⟩ := List.mem_filterMap.mp h
  exact List.mem_of_getElem? e
end S_PL3
section S_PL5
/-- the lengths from 0 to k that some text has, as a number's figures -/
noncomputable def mskF (ns : List Nat) : Nat → Nat
  | 0 => 1
  | k + 1 => if ns.any (fun z => decide (z ≤ k + 1) && Nat.testBit (mskF ns k) (k + 1 - z)) then mskF ns k ||| (1 <<< (k + 1)) else mskF ns k
theorem mskF_succ (ns : List Nat) (k : Nat) : mskF ns (k + 1) = if ns.any (fun z => decide (z ≤ k + 1) && Nat.testBit (mskF ns k) (k + 1 - z)) then mskF ns k ||| (1 <<< (k + 1)) else mskF ns k := rfl
theorem mskF_lt (ns : List Nat) (k : Nat) : mskF ns k < 2 ^ (k + 1) := by
  induction k with
  | zero => exact (by decide : (1 : Nat) < 2 ^ (0 + 1))
  | succ k ih =>
    unfold mskF
    have h1 : mskF ns k < 2 ^ (k + 1 + 1) := Nat.lt_of_lt_of_le ih (Nat.pow_le_pow_right (by decide) (Nat.le_succ _))
    split
    · refine Nat.or_lt_two_pow h1 ?_
      rw [Nat.shiftLeft_eq, Nat.one_mul]
      exact Nat.pow_lt_pow_right (by decide) (Nat.lt_succ_self _)
    · exact h1
theorem hvL_getD (ns : List Nat) (k i : Nat) (hi : i ≤ k) : (hvL ns k).getD i false = Nat.testBit (mskF ns k) i := by
  induction k generalizing i with
  | zero =>
    obtain rfl : i = 0 := Nat.le_zero.mp hi
    exact (by decide : ([true] : List Bool).getD 0 false = Nat.testBit 1 0)
  | succ k ih =>
    have hl := hvL_length ns k
    have eAny : (ns.any fun z => decide (z ≤ k + 1) && (hvL ns k).getD (k + 1 - z) false) = ns.any fun z => decide (z ≤ k + 1) && Nat.testBit (mskF ns k) (k + 1 - z) := by
      congr 1
      funext z
      rcases Nat.eq_zero_or_pos z with rfl | hz
      · rw [Nat.sub_zero, Nat.testBit_lt_two_pow (mskF_lt ns k), List.getD_eq_getElem?_getD, List.getElem?_eq_none (by rw [hl]; exact Nat.le_refl _)]
        rfl
      · rw [ih _ (by omega)]
    rw [hvL, eAny, mskF_succ]
    rcases Nat.lt_or_eq_of_le hi with h | rfl
    · rw [List.getD_eq_getElem?_getD, List.getElem?_append_left (by rw [hl]; exact h), ← List.getD_eq_getElem?_getD, ih i (Nat.lt_succ_iff.mp h)]
      split
      · rw [Nat.testBit_or, Nat.one_shiftLeft, Nat.testBit_two_pow_of_ne (Nat.ne_of_gt h), Bool.or_false]
      · rfl
    · rw [List.getD_eq_getElem?_getD, List.getElem?_append_right (by rw [hl]; exact Nat.le_refl _), hl, Nat.sub_self]
      have hz : Nat.testBit (mskF ns k) (k + 1) = false := Nat.testBit_lt_two_pow (mskF_lt ns k)
      generalize (ns.any fun z => decide (z ≤ k + 1) && Nat.testBit (mskF ns k) (k + 1 - z)) = b
      cases b
      · exact hz.symm
      · simp [Nat.testBit_or, Nat.one_shiftLeft, Nat.testBit_two_pow_self]
noncomputable def gapsF (ns : List Nat) : List Nat := (List.range 41).filter fun k => !Nat.testBit (mskF ns 40) k
theorem gapsF_eq (ns : List Nat) : gapsOf ns = gapsF ns := by
  unfold gapsOf gapsF
  refine List.filter_congr fun k hk => ?_
  rw [hvL_getD ns 40 k (Nat.lt_succ_iff.mp (List.mem_range.mp hk))]
noncomputable def runsP (fg : List Int) (m i : Nat) : List Nat := (List.range i).map fun r => r + m * ((pickI fg r m).idxOf 1)
noncomputable def sqN (cnt : List Nat) (m n : Nat) : List Int := (List.range n).map fun sz => ((cnt.getD sz 0 : Nat) : Int) * (sz : Int) * ((sz : Int) - (m : Int))
noncomputable def thN (cnt : List Nat) (n : Nat) : List Nat := (List.range n).filter fun sz => decide (cnt.getD sz 0 > 0)
noncomputable def enN (D ths l : List Nat) : List Nat := l.filter fun sz => (D.filter fun more => decide (sz + more ∈ ths)).isEmpty
noncomputable abbrev Sg := Nat × Nat × Nat × List Nat
noncomputable def fits (σ : Sg) : Bool := decide (σ.2.2.2.length ≤ 1000) && σ.2.2.2.all fun c => decide (c ≤ 1000)
noncomputable def lookB (D : List Nat) (m : Nat) (gp rs : List Nat) (top : Nat) (L M S R : Sg) (ths : List Nat) : Bool :=
  decide (gp.length ≤ 30) && decide (0 < gp.length) && decide (top ∈ rs) && rs.all (fun a => decide (a ≤ top)) && decide (top ≤ 39) && fits L && fits M && fits S && fits R &&
  decide (max ((L.2.2.2.length : Int) - 1) (L.2.2.1 : Int) - (m : Int) = ((gp.getD (gp.length - 1) 0 : Nat) : Int)) &&
  decide (L.2.2.1 + m * (ilSum m L.2.2.2 (L.2.2.2.length - m) + L.2.1) = m * (gp.length + m + 1) + 1) &&
  decide (M.2.2.1 + m * (ilSum m M.2.2.2 (M.2.2.2.length - m) + M.2.1) = m * (gp.length + m + 1) + 1) &&
  decide (max ((S.2.2.2.length : Int) - 1) (S.2.2.1 : Int) = (gp.length : Int) + 1) && decide (S.2.2.1 + 1 * (ilSum 1 S.2.2.2 (S.2.2.2.length - 1) + S.2.1) = 2 * gp.length + m + 1) &&
  decide (6 * (sqN L.2.2.2 m L.2.2.2.length).sum + (m : Int) * ((m : Int) * (m : Int) - 1) = 12 * (m : Int) * (gp.map fun n : Nat => (n : Int)).sum) &&
  decide (decide (L.2.2 = R.2.2) = decide ((enN D ths ths).length = 1)) && decide (decide (L.2.2 = M.2.2) = false)
noncomputable def lookA (D : List Nat) (m : Nat) (gp rs : List Nat) (top : Nat) (L : Sg) : Bool :=
  lookB D m gp rs top L (wsAt (leadW (rs.map (· + 1)) 1)) (wsAt (leadW (rs.map (· / m)) (gp.length + 1))) (wsAt (leadW (rs.map fun r => top - r) (m + 1))) (thN L.2.2.2 L.2.2.2.length)
noncomputable def lookR (D : List Nat) (m : Nat) (gp rs : List Nat) : Bool := lookA D m gp rs (rs.foldl max 0) (wsAt (leadW rs (m + 1)))
noncomputable def onesB (D : List Nat) (m : Nat) (fg : List Int) : Bool := (List.range m).all fun j => decide (1 ∈ pickI fg j m)
noncomputable def turnOk (D : List Nat) (m : Nat) : Bool := onesB D m (figOf D) && lookR D m (gapsF D) (runsP (figOf D) m m)
end S_PL5
local macro_rules | `(tactic| walk_at "eval ListComp") => `(tactic| (k_here; (with_reducible show wpAny _ _ (eval (PySem.Expr.ListComp _ [PySem.Comprehension.mk (PySem.Expr.Name _ _) _ [] _] _ _) _) _ _ _); k_dflt (refine LCg.ListComp_U (F₀ := by k_asm) (by rfl) (by decide) (by rfl) (by decide) (by rfl) ?_)))
local macro_rules | `(tactic| walk_at "eval ListComp") => `(tactic| (k_here; (with_reducible show wpAny _ _ (eval (PySem.Expr.ListComp _ [PySem.Comprehension.mk (PySem.Expr.Name _ _) _ [_] _] _ _) _) _ _ _); k_dflt (refine LCt.ListComp_T (F₀ := by k_asm) (by rfl) (by decide) (by rfl) (by decide) (by rfl) ?_)))
local macro_rules | `(tactic| walk_at "CompSrcT") => `(tactic| (refine Stop.out ?_))
local macro_rules | `(tactic| walk_at "CompSrc") => `(tactic| (refine Stop.out ?_))
section S_LW1
section
variable {w : World} {base : Heap} {p : Program} {loose : List Str} {mean : ExcName → Option Value} {mg mb : Str → Option Value}
set_option maxHeartbeats 4000000

local macro_rules | `(tactic| walk_at "call type:enumerate") => `(tactic| (k_here; k_dflt (refine' k_enum ?kN ?k1 ?k2 ?_; (case kN => exact Heap.IsList.at (by assumption) fun o e => Fr.keep (by k_asm) _ _ e); (case k1 => k_asm); (case k2 => k_asm); k_whole; intro h' it' he' hit' hlt' hLi' hli' F' N'; (try k_sweep))))
local macro_rules | `(tactic| walk_at "execs cons") => `(tactic| (with_reducible refine stAssign 160 ?_))
noncomputable def BES : List Int := [172, 174, 846, 848, 6149, 6151, 6154, 6158, 8202, 8206, 8287, 8289, 65278, 65280, 65023, 65040]
noncomputable def UNS : List Int := [173, 847, 6150, 6155, 6156, 6157, 8203, 8204, 8205, 8288, 65279] ++ List.map (fun k => 65024 + k) (rangeKs 0 16)
theorem drop_mid {h₀ h : Heap} {L : Addr} {A B C : List (Addr × Obj)} (N : News h₀ L h (A ++ (B ++ C))) : News h₀ L h (A ++ C) :=
  news_sub N fun p hp => (List.mem_append.mp hp).elim (fun h => List.mem_append_left _ h) fun h => List.mem_append_right _ (List.mem_append_right _ h)
theorem fm9 (c : Int) : c.fmod 9 = (((c.fmod 9).toNat : Nat) : Int) := (Int.toNat_of_nonneg (fmod_lo c (by decide))).symm
theorem fm9lt (c : Int) : (c.fmod 9).toNat < 9 := by
  have h0 := fmod_lo c (n := 9) (by decide)
  have h1 := fmod_hi c (n := 9) (by decide)
  omega
noncomputable abbrev lawE (w : World) (L fa : Addr) (cd : Value) (E1 : Value → Shared → Prop) : Value → Shared → Prop := fun e s' => wpAny (model Challenge.rw_tl0059_01.row.prog w) (callerA.deeper (envOfC (Str.ofString "law") (fdS 23) L fa cd)) («leaving» (envOfC (Str.ofString "law") (fdS 23) L fa cd) e) (fun _ s'' => E1 e s'') (fun e' s'' => E1 e' s'') s'
theorem law_1 (g : Heap) (L fa : Addr) (cd : Value) (h : Heap) (tk : Nat) (m : Str → Option Value) (o1 o2 o3 o4 o5 o6 : Obj) (l : Addr) (vs : List Value) (xs : List Int) (s : Shared) (QK : Flow → Shared → Prop) (E1 : Value → Shared → Prop)
    (B : Below callerA base [] g) (F : Fr g L h m) (hm : m (Str.ofString "script") = some (.ref l))
    (N : News g L h [(L + 1 + 1 + 1 + 1 + 1 + 1, o6), (L + 1 + 1 + 1 + 1 + 1, o5), (L + 1 + 1 + 1 + 1, o4), (L + 1 + 1 + 1, o3), (L + 1 + 1, o2), (L + 1, o1)])
    (d1 : ∃ v, o1.data = .cell v) (d2 : ∃ v, o2.data = .cell v) (d3 : ∃ v, o3.data = .cell v) (d4 : ∃ v, o4.data = .cell v) (d5 : ∃ v, o5.data = .cell v) (d6 : ∃ v, o6.data = .cell v)
    (X : (KK w.params).In g) (T : Top p loose mean mg mb g) (hL : g.IsList l vs.toArray) (hi : IntsAre vs xs) (hlen : xs.length ≤ 63)
    (next : ∀ (h' : Heap) (tk' : Nat) (m' : Str → Option Value) (ro r1 r0 ki be un ca : Addr) (bvs uvs us v0 v1 v2 : List Value) (k : Nat) (k0 k1 k2 k3 : Nat) (c0 c1 c2 : Int),
      Fr g L h' m' → m' (Str.ofString "rows") = some (.ref ro) → m' (Str.ofString "kinds") = some (.ref ki) → m' (Str.ofString "beside") = some (.ref be) → m' (Str.ofString "unseen") = some (.ref un) → m' (Str.ofString "cells") = some (.ref ca) →
      News g L h' ((ro, listOf #[.ref r0, .ref r1, .ref ki] 0) :: (r1, listOf v1.toArray 0) :: (r0, listOf v0.toArray 0) :: (ki, listOf v2.toArray 0) :: (be, listOf bvs.toArray 0) :: (un, listOf uvs.toArray 0) :: (ca, listOf us.toArray k) :: (L + 1 + 1 + 1 + 1 + 1 + 1, o6) :: (L + 1 + 1 + 1 + 1 + 1, o5) :: (L + 1 + 1 + 1 + 1, o4) :: (L + 1 + 1 + 1, o3) :: (L + 1 + 1, o2) :: (L + 1, o1) :: []) →
      IntsAre v0 ([k0, k1].map fun n : Nat => (n : Int)) → IntsAre v1 ([k0, k1, k2].map fun n : Nat => (n : Int)) → IntsAre v2 ([k0, k1, k2, k3].map fun n : Nat => (n : Int)) → IntsAre bvs BES → IntsAre uvs UNS → IntsAre us [c0, c1, c2] →
      k0 < 9 → k1 < 9 → k2 < 9 → k3 < 9 → 0 ≤ c2 → c2 ≤ 300 + 63 * 1000000 → @LT.lt Nat _ (L + 1 + 1 + 1 + 1 + 1 + 1) ca → @LT.lt Nat _ ca un → @LT.lt Nat _ un be → @LT.lt Nat _ be ki → @LT.lt Nat _ ki r0 → @LT.lt Nat _ r0 r1 → @LT.lt Nat _ r1 ro →
      wpAny (model Challenge.rw_tl0059_01.row.prog w) (callerA.deeper (envOfC (Str.ofString "law") (fdS 23) L fa cd)) (execs ((fdB 23).drop 6) (envOfC (Str.ofString "law") (fdS 23) L fa cd)) QK
        (lawE w L fa cd E1) { s with heap := h', toks := tk' }) :
    wpAny (model Challenge.rw_tl0059_01.row.prog w) (callerA.deeper (envOfC (Str.ofString "law") (fdS 23) L fa cd)) (execs (fdB 23) (envOfC (Str.ofString "law") (fdS 23) L fa cd)) QK
      (lawE w L fa cd E1) { s with heap := h, toks := tk } := by
  w_top off
  obtain ⟨v1, d1⟩ := d1
  obtain ⟨v2, d2⟩ := d2
  obtain ⟨v3, d3⟩ := d3
  obtain ⟨v4, d4⟩ := d4
  obtain ⟨v5, d5⟩ := d5
  obtain ⟨v6, d6⟩ := d6
  replace F := fr_pin F (x := Str.ofString "script") (by exact hm)
  k_steps
  refine Stop.go ?_
  (with_reducible rename Fr _ _ _ _ => F2)
  (with_reducible rename News _ _ _ _ => N2)
  (with_reducible rename IsEnum _ _ _ _ _ => he')
  (with_reducible rename Heap.IsListIter _ _ _ _ => hit')
  rename_i ca _ lts _ hh0 itA hlt' hLi' hli'
  have hlL : l < L := by
    obtain ⟨_, e, _⟩ := hL
    exact Nat.lt_of_lt_of_le (Heap.lt_size e) F2.above
  refine enum_loop (vs := vs) (news := (ca, _) :: (L + 1 + 1 + 1 + 1 + 1 + 1, o6) :: (L + 1 + 1 + 1 + 1 + 1, o5) :: (L + 1 + 1 + 1 + 1, o4) :: (L + 1 + 1 + 1, o3) :: (L + 1 + 1, o2) :: (L + 1, o1) :: []) (fun i m nx => m (Str.ofString "cells") = some (.ref ca) ∧ ∃ us ns k, IntsAre us ns ∧ ns.length = 3 ∧ (∀ a ∈ ns, 0 ≤ a ∧ a ≤ 300 + i * 1000000) ∧ nx = (ca, listOf us.toArray k) :: (L + 1 + 1 + 1 + 1 + 1 + 1, o6) :: (L + 1 + 1 + 1 + 1 + 1, o5) :: (L + 1 + 1 + 1 + 1, o4) :: (L + 1 + 1 + 1, o3) :: (L + 1 + 1, o2) :: (L + 1, o1) :: [])
    rfl he' hit' (hL.at fun o e => F2.keep _ _ e) hlt' hLi' hli' (Nat.ne_of_lt hlL) F2 N2 ⟨rfl, _, _, _, .cons _ _ (.cons _ _ (.cons _ _ .nil)), rfl, by decide, rfl⟩ ?_ ?_
  · rintro i v ti m₁ nx h₁ tk₁ own hv ⟨pc, us, ns, k, hus, hn3, hnb, rfl⟩ hadr hown F3 N3
    obtain ⟨x, tx, rfl, hx⟩ := hi.at i v hv
    have hi63 : i < 63 := Nat.lt_of_lt_of_le (List.getElem?_eq_some_iff.mp hx).1 hlen
    replace F3 := fr_pin F3 (x := Str.ofString "cells") (by exact pc)
    have q1 : ∀ p ∈ own, p.1 ≠ ca := fun p hp => by
      have hci : ca < itA := hlt' (ca, _) (.head _)
      rcases hown p hp with e | e | e
      · rw [e]; exact Nat.ne_of_gt (Nat.lt_succ_of_lt hci)
      · rw [e]; exact Nat.ne_of_gt hci
      · rw [e]; exact Nat.ne_of_lt (Nat.lt_trans hlL (Nat.lt_trans (Nat.lt_succ_self _) lts.2.2.2.2.2))
    simp only [List.cons_append, List.nil_append] at N3
    k_steps
    (with_reducible rename IntsAre _ (List.set _ _ _) => hi9)
    (with_reducible rename News _ _ _ _ => N9)
    (with_reducible rename Fr _ _ _ _ => F9)
    refine PEnd.intro F9 N9 (news' := (ca, _) :: (L + 1 + 1 + 1 + 1 + 1 + 1, o6) :: (L + 1 + 1 + 1 + 1 + 1, o5) :: (L + 1 + 1 + 1 + 1, o4) :: (L + 1 + 1 + 1, o3) :: (L + 1 + 1, o2) :: (L + 1, o1) :: []) (fun p hp => hp) rfl ⟨rfl, _, _, k, hi9, by rw [List.length_set]; exact hn3, ?_, rfl⟩
    intro a ha
    have hj : ((i : Int).fmod 3).toNat < 3 := by
      have h1 := fmod_hi (i : Int) (n := 3) (by decide)
      have h0 := fmod_lo (i : Int) (n := 3) (by decide)
      omega
    have hg := hnb (ns.getD ((i : Int).fmod 3).toNat 0) (by rw [List.getD_eq_getElem?_getD, List.getElem?_eq_getElem (by omega)]; exact List.getElem_mem _)
    have hx0 := fmod_lo x (n := 10 ^ Int.toNat 6) (by decide)
    have hx1 := fmod_hi x (n := 10 ^ Int.toNat 6) (by decide)
    have h10 : (10 : Int) ^ Int.toNat 6 = 1000000 := by decide
    rw [h10] at hx0 hx1 ha
    rcases List.mem_or_eq_of_mem_set ha with ha | rfl
    · have := hnb a ha
      omega
    · omega
  · rintro m₁ nx h₁ tk₁ hadr ⟨pc, us, ns, k, hus, hn3, hnb, rfl⟩ F3 N3
    replace F3 := fr_pin F3 (x := Str.ofString "cells") (by exact pc)
    obtain ⟨c0, c1, c2, rfl⟩ : ∃ c0 c1 c2, ns = [c0, c1, c2] := by
      match ns, hn3 with
      | [a, b, c], _ => exact ⟨a, b, c, rfl⟩
    have hc0 := hnb c0 (.head _)
    have hc1 := hnb c1 (.tail _ (.head _))
    have hc2 := hnb c2 (.tail _ (.tail _ (.head _)))
    have hvl : vs.length ≤ 63 := hi.length ▸ hlen
    k_steps
    refine Stop.go ?_
    (with_reducible rename IsRange _ _ _ _ _ _ _ _ => hr)
    (with_reducible rename Fr _ _ _ _ => F5)
    (with_reducible rename News _ _ _ _ => N5)
    refine LCg.CompSrc.range (n := 16) rfl F5 N5 hr (by decide) (by decide) (by rw [sizeLine_eq]; decide) (fun g5 => ?_)
    refine kcf_range (fun k => 65024 + k) ?_ ?_
    · intro z tz I2 oI2 C2 oC2 D2 m₂ ys h5 tk5 E5 hz0 hz1 hC hx F6 N6 off6 ne6 mk
      k_steps
    · unfold KPfDone
      intro ys hys D h6 tk6 F6 N6 off6
      k_steps
      refine Stop.go ?_
      (with_reducible rename Fr _ _ _ _ => F9)
      (with_reducible rename News _ _ _ _ => N9)
      rename_i un uvs _ _ _ hI _ _ be _ _ _ _ _ _ _ ki _ _ _ r0 _ _ r1 _ _ ro _ _ _
      have e0 : ([c0, c1, c2].getD (Int.toNat 0) 0).fmod 9 = (((c0.fmod 9).toNat : Nat) : Int) := fm9 c0
      have e1 : (([c0, c1, c2].getD (Int.toNat 0) 0).fdiv 9).fmod 9 = ((((c0.fdiv 9).fmod 9).toNat : Nat) : Int) := fm9 _
      have e2 : ([c0, c1, c2].getD (Int.toNat 1) 0).fmod 9 = (((c1.fmod 9).toNat : Nat) : Int) := fm9 c1
      have e3 : (([c0, c1, c2].getD (Int.toNat 1) 0).fdiv 9).fmod 9 = ((((c1.fdiv 9).fmod 9).toNat : Nat) : Int) := fm9 _
      rw [e0, e1, e2, e3] at N9
      refine next _ _ _ ro r1 r0 ki be un ca _ _ us _ _ _ k ((c0.fmod 9).toNat) (((c0.fdiv 9).fmod 9).toNat) ((c1.fmod 9).toNat) (((c1.fdiv 9).fmod 9).toNat) c0 c1 c2 F9 rfl rfl rfl rfl rfl (drop_mid (A := [_, _, _, _, _, _]) (B := [_, _]) N9)
        (.cons _ _ (.cons _ _ .nil)) (.cons _ _ (.cons _ _ (.cons _ _ .nil))) (.cons _ _ (.cons _ _ (.cons _ _ (.cons _ _ .nil)))) (.cons _ _ (.cons _ _ (.cons _ _ (.cons _ _ (.cons _ _ (.cons _ _ (.cons _ _ (.cons _ _ (.cons _ _ (.cons _ _ (.cons _ _ (.cons _ _ (.cons _ _ (.cons _ _ (.cons _ _ (.cons _ _ .nil)))))))))))))))) hI hus
        (fm9lt _) (fm9lt _) (fm9lt _) (fm9lt _) hc2.1 (by omega) lts.1 (by omega) (by omega) (by omega) (by omega) (by omega) (by omega)
end
end S_LW1
section S_LW2
local macro_rules | `(tactic| walk_at "pad") => `(tactic| skip)
section
variable {w : World} {base : Heap} {p : Program} {loose : List Str} {mean : ExcName → Option Value} {mg mb : Str → Option Value}
set_option maxHeartbeats 4000000
local macro_rules | `(tactic| k_ne) => `(tactic| first | (with_reducible assumption) | (dsimp only; with_reducible assumption))
local macro_rules | `(tactic| walk_at "execs cons") => `(tactic| (with_reducible refine stAssign 164 ?_))

local macro_rules | `(tactic| walk_at "execs cons Assign cons") => `(tactic| (with_reducible refine stAssign 164 ?_))


noncomputable def lenOf (ks : List Nat) : Nat := (ks.map fun k => 1 + k / 3).sum
theorem lenOf_int (ks : List Nat) : (List.map (fun k : Int => 1 + k.fdiv 3) (List.map (fun n : Nat => (n : Int)) ks)).sum = ((lenOf ks : Nat) : Int) := by
  unfold lenOf
  induction ks with
  | nil => rfl
  | cons a r ih =>
    rw [List.map_cons, List.map_cons, List.map_cons, List.sum_cons, List.sum_cons, ih, Int.fdiv_eq_ediv_of_nonneg _ (by decide)]
    simp
theorem lenOf_le (ks : List Nat) (h : ∀ k ∈ ks, k < 9) : ks.length ≤ lenOf ks ∧ lenOf ks ≤ 3 * ks.length := by
  unfold lenOf
  induction ks with
  | nil => exact ⟨Nat.le_refl _, Nat.le_refl _⟩
  | cons a r ih =>
    have h1 := h a (.head _)
    have h2 := ih fun k hk => h k (.tail _ hk)
    simp only [List.map_cons, List.sum_cons, List.length_cons]
    omega
theorem and3_t {A B C : Prop} [Decidable A] [Decidable B] [Decidable C] (a : A) (b : B) (c : C) : (decide A && decide B && decide C) = true := by simp [a, b, c]
theorem and3_1 {A B C : Prop} [Decidable A] [Decidable B] [Decidable C] (a : ¬ A) : (decide A && decide B && decide C) = false := by simp [a]
theorem and3_2 {A B C : Prop} [Decidable A] [Decidable B] [Decidable C] (a : ¬ B) : (decide A && decide B && decide C) = false := by simp [a]
theorem and3_3 {A B C : Prop} [Decidable A] [Decidable B] [Decidable C] (a : ¬ C) : (decide A && decide B && decide C) = false := by simp [a]
/-- does 2 or 3 divide all three -/
noncomputable def commonD (e0 e1 e2 : Nat) : Bool := (decide (e0 % 2 = 0) && decide (e1 % 2 = 0) && decide (e2 % 2 = 0)) || (decide (e0 % 3 = 0) && decide (e1 % 3 = 0) && decide (e2 % 3 = 0))
theorem fm_nat (e : Nat) (d : Nat) (hd : 0 < d) : decide ((e : Int).fmod (d : Int) = 0) = decide (e % d = 0) := by
  rw [decide_eq_decide, Int.fmod_eq_emod_of_nonneg _ (by omega)]
  omega
theorem common_fold (e0 e1 e2 : Nat) : decide (([2, 3] : List Int).foldl (fun acc d => if (decide ((e0 : Int).fmod d = 0) && decide ((e1 : Int).fmod d = 0) && decide ((e2 : Int).fmod d = 0)) then acc ++ [d] else acc) [] = []) = !commonD e0 e1 e2 := by
  unfold commonD
  rw [List.foldl_cons, List.foldl_cons, List.foldl_nil]
  have h2 := fun e : Nat => fm_nat e 2 (by decide)
  have h3 := fun e : Nat => fm_nat e 3 (by decide)
  simp only [Int.cast_ofNat_Int] at h2 h3
  rw [h2, h2, h2, h3, h3, h3]
  cases (decide (e0 % 2 = 0) && decide (e1 % 2 = 0) && decide (e2 % 2 = 0)) <;> cases (decide (e0 % 3 = 0) && decide (e1 % 3 = 0) && decide (e2 % 3 = 0)) <;> simp
noncomputable def row2Of (k0 k1 k2 k3 : Nat) : List Nat := if commonD (lenOf [k0, k1]) (lenOf [k0, k1, k2]) (lenOf [k0, k1, k2, k3]) then [k0, k1, k2, k3, 2] else [k0, k1, k2, k3]
noncomputable def dueOf (k0 k1 k2 k3 : Nat) : List Nat := [lenOf [k0, k1], lenOf [k0, k1, k2], lenOf (row2Of k0 k1 k2 k3)]
noncomputable abbrev Ap (L a : Nat) : Prop := L + 1 ≠ a ∧ L + 1 + 1 ≠ a ∧ L + 1 + 1 + 1 ≠ a ∧ L + 1 + 1 + 1 + 1 ≠ a ∧ L + 1 + 1 + 1 + 1 + 1 ≠ a ∧ L + 1 + 1 + 1 + 1 + 1 + 1 ≠ a
theorem news_at {h₀ h : Heap} {L : Addr} {l : List (Addr × Obj)} (N : News h₀ L h l) (is : List Nat) : News h₀ L h (is.filterMap fun i => l[i]?) :=
  news_sub N fun p hp => by
    obtain ⟨i, _, e⟩ := List.mem_filterMap.mp hp
    exact List.mem_of_getElem? e
theorem ap_gt {L I : Nat} (h : L + 1 + 1 + 1 + 1 + 1 + 1 < I) : Ap L I := by unfold Ap; omega
theorem ap_cell {h₀ h : Heap} {L a b : Addr} {oa ob : Obj} {v : Option Value} {its : Array Value} {n : Nat} {l : List (Addr × Obj)} (N : News h₀ L h l) (ha : (a, oa) ∈ l) (hb : (b, ob) ∈ l) (da : oa.data = .seq its n) (db : ob.data = .cell v) : b ≠ a := fun e => by
  have x := (N _ ha).1
  have y := (N _ hb).1
  dsimp only at x y
  rw [← e, y] at x
  rw [Option.some.inj x, da] at db
  cases db
theorem law_2 (g : Heap) (L fa : Addr) (cd : Value) (o1 o2 o3 o4 o5 o6 : Obj) (s : Shared) (QK : Flow → Shared → Prop) (E1 : Value → Shared → Prop)
    (h : Heap) (tk : Nat) (m : Str → Option Value) (ro r1 r0 ki be un ca : Addr) (bvs uvs us v0 v1 v2 : List Value) (k : Nat) (k0 k1 k2 k3 : Nat) (c0 c1 c2 : Int)
    (B : Below callerA base [] g) (X : (KK w.params).In g) (T : Top p loose mean mg mb g)
    (w1 w2 w3 w4 w5 w6 : Option Value) (d1 : o1.data = .cell w1) (d2 : o2.data = .cell w2) (d3 : o3.data = .cell w3) (d4 : o4.data = .cell w4) (d5 : o5.data = .cell w5) (d6 : o6.data = .cell w6)
    (F : Fr g L h m) (pro : m (Str.ofString "rows") = some (.ref ro)) (pki : m (Str.ofString "kinds") = some (.ref ki)) (pbe : m (Str.ofString "beside") = some (.ref be)) (pun : m (Str.ofString "unseen") = some (.ref un)) (pca : m (Str.ofString "cells") = some (.ref ca))
    (N : News g L h ((ro, listOf #[.ref r0, .ref r1, .ref ki] 0) :: (r1, listOf v1.toArray 0) :: (r0, listOf v0.toArray 0) :: (ki, listOf v2.toArray 0) :: (be, listOf bvs.toArray 0) :: (un, listOf uvs.toArray 0) :: (ca, listOf us.toArray k) :: (L + 1 + 1 + 1 + 1 + 1 + 1, o6) :: (L + 1 + 1 + 1 + 1 + 1, o5) :: (L + 1 + 1 + 1 + 1, o4) :: (L + 1 + 1 + 1, o3) :: (L + 1 + 1, o2) :: (L + 1, o1) :: []))
    (i0 : IntsAre v0 ([k0, k1].map fun n : Nat => (n : Int))) (i1 : IntsAre v1 ([k0, k1, k2].map fun n : Nat => (n : Int))) (i2 : IntsAre v2 ([k0, k1, k2, k3].map fun n : Nat => (n : Int)))
    (b0 : k0 < 9) (b1 : k1 < 9) (b2 : k2 < 9) (b3 : k3 < 9)
    (l1 : @LT.lt Nat _ (L + 1 + 1 + 1 + 1 + 1 + 1) ca) (l2 : @LT.lt Nat _ ca un) (l3 : @LT.lt Nat _ un be) (l4 : @LT.lt Nat _ be ki) (l5 : @LT.lt Nat _ ki r0) (l6 : @LT.lt Nat _ r0 r1) (l7 : @LT.lt Nat _ r1 ro)
    (next : ∀ (h' : Heap) (tk' : Nat) (m' : Str → Option Value) (du ro r2 r1 r0 : Addr) (dvs v0 v1 v2 : List Value) (kd : Nat) (o1' : Obj),
      Fr g L h' m' → m' (Str.ofString "rows") = some (.ref ro) → m' (Str.ofString "beside") = some (.ref be) → m' (Str.ofString "unseen") = some (.ref un) → m' (Str.ofString "cells") = some (.ref ca) →
      News g L h' ((du, listOf dvs.toArray kd) :: (ro, listOf #[.ref r0, .ref r1, .ref r2] 0) :: (r2, listOf v2.toArray 0) :: (r1, listOf v1.toArray 0) :: (r0, listOf v0.toArray 0) :: (be, listOf bvs.toArray 0) :: (un, listOf uvs.toArray 0) :: (ca, listOf us.toArray k) :: (L + 1 + 1 + 1 + 1 + 1 + 1, o6) :: (L + 1 + 1 + 1 + 1 + 1, o5) :: (L + 1 + 1 + 1 + 1, o4) :: (L + 1 + 1 + 1, o3) :: (L + 1 + 1, o2) :: (L + 1, o1') :: []) →
      o1'.data = .cell (some (.ref du)) → IntsAre dvs ((dueOf k0 k1 k2 k3).map fun n : Nat => (n : Int)) → IntsAre v0 ([k0, k1].map fun n : Nat => (n : Int)) → IntsAre v1 ([k0, k1, k2].map fun n : Nat => (n : Int)) → IntsAre v2 ((row2Of k0 k1 k2 k3).map fun n : Nat => (n : Int)) →
      Ap L du → Ap L ro → Ap L r2 → Ap L r1 → Ap L r0 → Ap L be → Ap L un → Ap L ca →
      wpAny (model Challenge.rw_tl0059_01.row.prog w) (callerA.deeper (envOfC (Str.ofString "law") (fdS 23) L fa cd)) (execs ((fdB 23).drop 8) (envOfC (Str.ofString "law") (fdS 23) L fa cd)) QK
        (lawE w L fa cd E1) { s with heap := h', toks := tk' }) :
    wpAny (model Challenge.rw_tl0059_01.row.prog w) (callerA.deeper (envOfC (Str.ofString "law") (fdS 23) L fa cd)) (execs ((fdB 23).drop 6) (envOfC (Str.ofString "law") (fdS 23) L fa cd)) QK
        (lawE w L fa cd E1) { s with heap := h, toks := tk } := by
  w_top off
  have m2 := Nat.lt_trans l1 l2
  have m3 := Nat.lt_trans m2 l3
  have m4 := Nat.lt_trans m3 l4
  have m5 := Nat.lt_trans m4 l5
  have m6 := Nat.lt_trans m5 l6
  have A1 : Ap L ca := ap_gt l1
  have A2 : Ap L un := ap_gt m2
  have A3 : Ap L be := ap_gt m3
  have A4 : Ap L ki := ap_gt m4
  have A5 : Ap L r0 := ap_gt m5
  have A6 : Ap L r1 := ap_gt m6
  have A7 : Ap L ro := ap_gt (Nat.lt_trans m6 l7)
  clear l1 l2 l3 l4 l5 l6 l7 m2 m3 m4 m5 m6
  have nn1 : ca ≠ L + 1 := Ne.symm A1.1
  have nn2 : un ≠ L + 1 := Ne.symm A2.1
  have nn3 : be ≠ L + 1 := Ne.symm A3.1
  have nn4 : ki ≠ L + 1 := Ne.symm A4.1
  have nn5 : r0 ≠ L + 1 := Ne.symm A5.1
  have nn6 : r1 ≠ L + 1 := Ne.symm A6.1
  have nn7 : ro ≠ L + 1 := Ne.symm A7.1
  have e2 : L + 1 + 1 ≠ L + 1 := Nat.succ_ne_self _
  have e3 : L + 1 + 1 + 1 ≠ L + 1 := Nat.ne_of_gt (Nat.lt_succ_of_lt (Nat.lt_succ_self _))
  have e4 : L + 1 + 1 + 1 + 1 ≠ L + 1 := Nat.ne_of_gt (Nat.lt_succ_of_lt (Nat.lt_succ_of_lt (Nat.lt_succ_self _)))
  have e5 : L + 1 + 1 + 1 + 1 + 1 ≠ L + 1 := Nat.ne_of_gt (Nat.lt_succ_of_lt (Nat.lt_succ_of_lt (Nat.lt_succ_of_lt (Nat.lt_succ_self _))))
  have e6 : L + 1 + 1 + 1 + 1 + 1 + 1 ≠ L + 1 := Nat.ne_of_gt (Nat.lt_succ_of_lt (Nat.lt_succ_of_lt (Nat.lt_succ_of_lt (Nat.lt_succ_of_lt (Nat.lt_succ_self _)))))
  replace F := fr_pin F (x := Str.ofString "rows") (by exact pro)
  replace F := fr_pin F (x := Str.ofString "kinds") (by exact pki)
  replace F := fr_pin F (x := Str.ofString "beside") (by exact pbe)
  replace F := fr_pin F (x := Str.ofString "unseen") (by exact pun)
  replace F := fr_pin F (x := Str.ofString "cells") (by exact pca)
  k_steps
  refine Stop.go ?_
  (with_reducible rename Fr _ _ _ _ => F5)
  (with_reducible rename News _ _ _ _ => N5)
  refine LCg.CompSrc.ledger rfl F5 N5 (ax := ro) (its := #[.ref r0, .ref r1, .ref ki]) (k := 0) (by k_mem) (by rw [sizeLine_eq]; exact Nat.le_of_ble_eq_true rfl) (fun g5 => ?_)
  refine LCg.CompRest.succ ?_
  intro v I0 oI0 C0 oC0 D0 m0 h0 tk0 E0 hv hC hx F6 N6 off0 ne0
  cases (Option.some.inj hv : Value.ref r0 = v)
  k_steps
  refine Stop.go ?_
  (with_reducible rename Fr _ _ _ _ => F7)
  (with_reducible rename News _ _ _ _ => N7)
  refine LCg.CompSrc.ledger rfl F7 N7 (ax := r0) (its := v0.toArray) (k := 0) (by k_mem) (by rw [sizeLine_eq, List.size_toArray, IntsAre.length i0]; exact Nat.le_of_ble_eq_true rfl) (fun g6 => ?_)
  refine kcf_list (fun k => 1 + k.fdiv 3) i0 ?_ ?_
  · intro z tz I7 oI7 C7 oC7 D7 m7 ys7 h7 tk7 E7 hz hC7 hx7 F8 N8 off7 ne7 mk7
    obtain ⟨z, hzn, rfl⟩ := List.mem_map.mp hz
    k_steps
  unfold KPfDone
  intro ys7 hys7 D7 h7 tk7 F8 N8 off7
  k_steps
  refine LCg.CompEnd.intro (by assumption) (by assumption) ((ro, listOf #[.ref r0, .ref r1, .ref ki] 0) :: (r1, listOf v1.toArray 0) :: (r0, listOf v0.toArray 0) :: (ki, listOf v2.toArray 0) :: (be, listOf bvs.toArray 0) :: (un, listOf uvs.toArray 0) :: (ca, listOf us.toArray k) :: (L + 1 + 1 + 1 + 1 + 1 + 1, o6) :: (L + 1 + 1 + 1 + 1 + 1, o5) :: (L + 1 + 1 + 1 + 1, o4) :: (L + 1 + 1 + 1, o3) :: (L + 1 + 1, o2) :: (L + 1, o1) :: []) (fun p hp => by first | exact hp | exact .tail _ hp) off0 (.inr ⟨_, by k_mem, rfl, _, rfl⟩) ?_
  refine LCg.CompRest.succ ?_
  intro v I1 oI1 C1 oC1 D1 m1 h1 tk1 E1 hv hC hx F6 N6 off1 ne1
  cases (Option.some.inj hv : Value.ref r1 = v)
  k_steps
  refine Stop.go ?_
  (with_reducible rename Fr _ _ _ _ => F7)
  (with_reducible rename News _ _ _ _ => N7)
  refine LCg.CompSrc.ledger rfl F7 N7 (ax := r1) (its := v1.toArray) (k := 0) (by k_mem) (by rw [sizeLine_eq, List.size_toArray, IntsAre.length i1]; exact Nat.le_of_ble_eq_true rfl) (fun g6 => ?_)
  refine kcf_list (fun k => 1 + k.fdiv 3) i1 ?_ ?_
  · intro z tz I7 oI7 C7 oC7 D7 m7 ys7 h7 tk7 E7 hz hC7 hx7 F8 N8 off7 ne7 mk7
    obtain ⟨z, hzn, rfl⟩ := List.mem_map.mp hz
    k_steps
  unfold KPfDone
  intro ys7 hys7 D7 h7 tk7 F8 N8 off7
  k_steps
  refine LCg.CompEnd.intro (by assumption) (by assumption) ((ro, listOf #[.ref r0, .ref r1, .ref ki] 0) :: (r1, listOf v1.toArray 0) :: (r0, listOf v0.toArray 0) :: (ki, listOf v2.toArray 0) :: (be, listOf bvs.toArray 0) :: (un, listOf uvs.toArray 0) :: (ca, listOf us.toArray k) :: (L + 1 + 1 + 1 + 1 + 1 + 1, o6) :: (L + 1 + 1 + 1 + 1 + 1, o5) :: (L + 1 + 1 + 1 + 1, o4) :: (L + 1 + 1 + 1, o3) :: (L + 1 + 1, o2) :: (L + 1, o1) :: []) (fun p hp => by first | exact hp | exact .tail _ hp) off1 (.inr ⟨_, by k_mem, rfl, _, rfl⟩) ?_
  refine LCg.CompRest.succ ?_
  intro v I2 oI2 C2 oC2 D2 m2 h2 tk2 E2 hv hC hx F6 N6 off2 ne2
  cases (Option.some.inj hv : Value.ref ki = v)
  k_steps
  refine Stop.go ?_
  (with_reducible rename Fr _ _ _ _ => F7)
  (with_reducible rename News _ _ _ _ => N7)
  refine LCg.CompSrc.ledger rfl F7 N7 (ax := ki) (its := v2.toArray) (k := 0) (by k_mem) (by rw [sizeLine_eq, List.size_toArray, IntsAre.length i2]; exact Nat.le_of_ble_eq_true rfl) (fun g6 => ?_)
  refine kcf_list (fun k => 1 + k.fdiv 3) i2 ?_ ?_
  · intro z tz I7 oI7 C7 oC7 D7 m7 ys7 h7 tk7 E7 hz hC7 hx7 F8 N8 off7 ne7 mk7
    obtain ⟨z, hzn, rfl⟩ := List.mem_map.mp hz
    k_steps
  unfold KPfDone
  intro ys7 hys7 D7 h7 tk7 F8 N8 off7
  k_steps
  refine LCg.CompEnd.intro (by assumption) (by assumption) ((ro, listOf #[.ref r0, .ref r1, .ref ki] 0) :: (r1, listOf v1.toArray 0) :: (r0, listOf v0.toArray 0) :: (ki, listOf v2.toArray 0) :: (be, listOf bvs.toArray 0) :: (un, listOf uvs.toArray 0) :: (ca, listOf us.toArray k) :: (L + 1 + 1 + 1 + 1 + 1 + 1, o6) :: (L + 1 + 1 + 1 + 1 + 1, o5) :: (L + 1 + 1 + 1 + 1, o4) :: (L + 1 + 1 + 1, o3) :: (L + 1 + 1, o2) :: (L + 1, o1) :: []) (fun p hp => by first | exact hp | exact .tail _ hp) off2 (.inr ⟨_, by k_mem, rfl, _, rfl⟩) ?_
  refine LCg.CompRest.zero ?_
  intro du h9 tk9 F9 N9 off9
  simp only [LCg.Off1, and_true] at off9
  clear hys7 N8 F8 N7 F7
  have le0 := lenOf_le [k0, k1] (by simp; omega)
  have le1 := lenOf_le [k0, k1, k2] (by simp; omega)
  have le2 := lenOf_le [k0, k1, k2, k3] (by simp; omega)
  simp only [List.nil_append, List.cons_append, lenOf_int] at N9
  simp only [List.length_cons, List.length_nil] at le0 le1 le2
  obtain ⟨e0, he0⟩ : ∃ e0, lenOf [k0, k1] = e0 := ⟨_, rfl⟩
  obtain ⟨e1, he1⟩ : ∃ e1, lenOf [k0, k1, k2] = e1 := ⟨_, rfl⟩
  obtain ⟨e2, he2⟩ : ∃ e2, lenOf [k0, k1, k2, k3] = e2 := ⟨_, rfl⟩
  rw [he0, he1, he2] at N9
  rw [he0] at le0
  rw [he1] at le1
  rw [he2] at le2
  k_steps
  refine Stop.go ?_
  (with_reducible rename Fr _ _ _ _ => F7)
  (with_reducible rename News _ _ _ _ => N7)
  refine LCt.CompSrcT.ledger rfl F7 N7 (its := [_, _].toArray) (k := 0) (by k_mem) (by rw [sizeLine_eq]; exact Nat.le_of_ble_eq_true rfl) (fun g6 => ?_)
  refine kci_list (fun acc d => if (decide ((e0 : Int).fmod d = 0) && decide ((e1 : Int).fmod d = 0) && decide ((e2 : Int).fmod d = 0)) then acc ++ [d] else acc) (.cons 2 _ (.cons 3 _ .nil)) ?_ ?_ ?_
  · intro z tz I2 oI2 C2 oC2 D2 m₂ ys acc h5 tk5 E5 hz hys hC hx F6 N6 off6 ne6 mk
    have hz' : z = 2 ∨ z = 3 := by simpa using hz
    rcases hz' with rfl | rfl
    · have hG : ∀ b : Bool, (decide ((e0 : Int).fmod 2 = 0) && decide ((e1 : Int).fmod 2 = 0) && decide ((e2 : Int).fmod 2 = 0)) = b → (if (decide ((e0 : Int).fmod 2 = 0) && decide ((e1 : Int).fmod 2 = 0) && decide ((e2 : Int).fmod 2 = 0)) then acc ++ [(2 : Int)] else acc) = if b then acc ++ [2] else acc := fun b h => by rw [h]
      k_steps
      all_goals first
        | (refine LCg.CompEnd.intro (by assumption) (by assumption) _ (fun p hp => hp) off6 (.inr ⟨_, by k_mem, rfl, _, rfl⟩) (kci_el ((hG true (and3_t (by assumption) (by assumption) (by assumption))).trans rfl) rfl rfl))
        | (refine LCg.CompEnd.intro (by assumption) (by assumption) _ (fun p hp => hp) off6 (.inr ⟨_, by k_mem, rfl, _, rfl⟩) (kci_no ((hG false (by first | exact and3_1 (by assumption) | exact and3_2 (by assumption) | exact and3_3 (by assumption))).trans rfl) rfl))
    · have hG : ∀ b : Bool, (decide ((e0 : Int).fmod 3 = 0) && decide ((e1 : Int).fmod 3 = 0) && decide ((e2 : Int).fmod 3 = 0)) = b → (if (decide ((e0 : Int).fmod 3 = 0) && decide ((e1 : Int).fmod 3 = 0) && decide ((e2 : Int).fmod 3 = 0)) then acc ++ [(3 : Int)] else acc) = if b then acc ++ [3] else acc := fun b h => by rw [h]
      k_steps
      all_goals first
        | (refine LCg.CompEnd.intro (by assumption) (by assumption) _ (fun p hp => hp) off6 (.inr ⟨_, by k_mem, rfl, _, rfl⟩) (kci_el ((hG true (and3_t (by assumption) (by assumption) (by assumption))).trans rfl) rfl rfl))
        | (refine LCg.CompEnd.intro (by assumption) (by assumption) _ (fun p hp => hp) off6 (.inr ⟨_, by k_mem, rfl, _, rfl⟩) (kci_no ((hG false (by first | exact and3_1 (by assumption) | exact and3_2 (by assumption) | exact and3_3 (by assumption))).trans rfl) rfl))
  · unfold KPfDone
    intro ys hys hyl D h6 tk6 F6 N6 off6
    simp only [LCg.Off1, and_true] at off6
    k_steps
    all_goals refine Stop.go ?_
    all_goals (
      (with_reducible rename Fr _ _ _ _ => F9)
      (with_reducible rename News _ _ _ _ => N9)
      skip)
    all_goals rename (decide (_ = []) = _) => hcond
    all_goals rw [common_fold, ← he0, ← he1, ← he2] at hcond
    · have hrow : row2Of k0 k1 k2 k3 = [k0, k1, k2, k3] := by
        unfold row2Of
        rw [if_neg (by simpa using hcond)]
      have hdue : dueOf k0 k1 k2 k3 = [e0, e1, e2] := by
        unfold dueOf
        rw [hrow, he0, he1, he2]
      refine next _ _ _ du ro ki r1 r0 [_, _, _] v0 v1 v2 3 _ F9 rfl rfl rfl rfl (news_at N9 [3, 4, 7, 5, 6, 8, 9, 10, 11, 12, 13, 14, 15, 16]) (by assumption) (by rw [hdue]; exact .cons _ _ (.cons _ _ (.cons _ _ .nil))) i0 i1 (by rw [hrow]; exact i2) ?_ ?_ ?_ ?_ ?_ ?_ ?_ ?_ <;> (first | (with_reducible assumption) | exact ⟨ap_cell N9 (by k_mem) (by k_mem) (by rfl) (by assumption), ap_cell N9 (by k_mem) (by k_mem) (by rfl) (by assumption), ap_cell N9 (by k_mem) (by k_mem) (by rfl) (by assumption), ap_cell N9 (by k_mem) (by k_mem) (by rfl) (by assumption), ap_cell N9 (by k_mem) (by k_mem) (by rfl) (by assumption), ap_cell N9 (by k_mem) (by k_mem) (by rfl) (by assumption)⟩)
    · have hrow : row2Of k0 k1 k2 k3 = [k0, k1, k2, k3, 2] := by
        unfold row2Of
        rw [if_pos (by simpa using hcond)]
      have hdue : dueOf k0 k1 k2 k3 = [e0, e1, e2 + 1] := by
        unfold dueOf
        rw [hrow, he0, he1, ← he2]
        rfl
      have c0 : [(e0 : Int), (e1 : Int), (e2 : Int)].getD (Int.toNat 0) 0 = (e0 : Int) := rfl
      have c1 : [(e0 : Int), (e1 : Int), (e2 : Int)].getD (Int.toNat 1) 0 = (e1 : Int) := rfl
      have c2 : [(e0 : Int), (e1 : Int), (e2 : Int)].getD (Int.toNat 2) 0 + 1 = ((e2 + 1 : Nat) : Int) := rfl
      rw [c0, c1, c2] at N9
      refine next _ _ _ _ _ _ _ _ [_, _, _] _ _ _ 0 _ F9 rfl rfl rfl rfl (news_at N9 [0, 1, 2, 4, 5, 14, 15, 16, 17, 18, 19, 20, 21, 22]) (by assumption) (by rw [hdue]; exact .cons _ _ (.cons _ _ (.cons _ _ .nil))) (by assumption) (by assumption) (by rw [hrow]; assumption) ?_ ?_ ?_ ?_ ?_ ?_ ?_ ?_ <;> (first | (with_reducible assumption) | exact ⟨ap_cell N9 (by k_mem) (by k_mem) (by rfl) (by assumption), ap_cell N9 (by k_mem) (by k_mem) (by rfl) (by assumption), ap_cell N9 (by k_mem) (by k_mem) (by rfl) (by assumption), ap_cell N9 (by k_mem) (by k_mem) (by rfl) (by assumption), ap_cell N9 (by k_mem) (by k_mem) (by rfl) (by assumption), ap_cell N9 (by k_mem) (by k_mem) (by rfl) (by assumption)⟩)
  · intro acc d
    dsimp only
    split <;> simp
end
end S_LW2
section S_PL6
noncomputable def dueN (ab c d : Nat) : List Nat := [ab, ab + c, if commonD ab (ab + c) (ab + c + d) then ab + c + d + 1 else ab + c + d]
noncomputable def okD (D : List Nat) : Bool := decide ((figOf D).count 0 = (gapsF D).length) && D.all (fun a => decide (2 ≤ a) && decide (a ≤ 40)) && (D.take 2).all fun m => decide (m ≤ 9) && turnOk D m
theorem ok_2_1_1 : okD (dueN 2 1 1) = true := by rw [show dueN 2 1 1 = [2, 3, 4] by decide]; decide +kernel
theorem ok_2_1_2 : okD (dueN 2 1 2) = true := by rw [show dueN 2 1 2 = [2, 3, 5] by decide]; decide +kernel
theorem ok_2_1_3 : okD (dueN 2 1 3) = true := by rw [show dueN 2 1 3 = [2, 3, 6] by decide]; decide +kernel
theorem ok_2_2_1 : okD (dueN 2 2 1) = true := by rw [show dueN 2 2 1 = [2, 4, 5] by decide]; decide +kernel
theorem ok_2_2_2 : okD (dueN 2 2 2) = true := by rw [show dueN 2 2 2 = [2, 4, 7] by decide]; decide +kernel
theorem ok_2_2_3 : okD (dueN 2 2 3) = true := by rw [show dueN 2 2 3 = [2, 4, 7] by decide]; decide +kernel
theorem ok_2_3_1 : okD (dueN 2 3 1) = true := by rw [show dueN 2 3 1 = [2, 5, 6] by decide]; decide +kernel
theorem ok_2_3_2 : okD (dueN 2 3 2) = true := by rw [show dueN 2 3 2 = [2, 5, 7] by decide]; decide +kernel
theorem ok_2_3_3 : okD (dueN 2 3 3) = true := by rw [show dueN 2 3 3 = [2, 5, 8] by decide]; decide +kernel
theorem ok_3_1_1 : okD (dueN 3 1 1) = true := by rw [show dueN 3 1 1 = [3, 4, 5] by decide]; decide +kernel
theorem ok_3_1_2 : okD (dueN 3 1 2) = true := by rw [show dueN 3 1 2 = [3, 4, 6] by decide]; decide +kernel
theorem ok_3_1_3 : okD (dueN 3 1 3) = true := by rw [show dueN 3 1 3 = [3, 4, 7] by decide]; decide +kernel
theorem ok_3_2_1 : okD (dueN 3 2 1) = true := by rw [show dueN 3 2 1 = [3, 5, 6] by decide]; decide +kernel
theorem ok_3_2_2 : okD (dueN 3 2 2) = true := by rw [show dueN 3 2 2 = [3, 5, 7] by decide]; decide +kernel
theorem ok_3_2_3 : okD (dueN 3 2 3) = true := by rw [show dueN 3 2 3 = [3, 5, 8] by decide]; decide +kernel
theorem ok_3_3_1 : okD (dueN 3 3 1) = true := by rw [show dueN 3 3 1 = [3, 6, 7] by decide]; decide +kernel
theorem ok_3_3_2 : okD (dueN 3 3 2) = true := by rw [show dueN 3 3 2 = [3, 6, 8] by decide]; decide +kernel
theorem ok_3_3_3 : okD (dueN 3 3 3) = true := by rw [show dueN 3 3 3 = [3, 6, 10] by decide]; decide +kernel
theorem ok_4_1_1 : okD (dueN 4 1 1) = true := by rw [show dueN 4 1 1 = [4, 5, 6] by decide]; decide +kernel
theorem ok_4_1_2 : okD (dueN 4 1 2) = true := by rw [show dueN 4 1 2 = [4, 5, 7] by decide]; decide +kernel
theorem ok_4_1_3 : okD (dueN 4 1 3) = true := by rw [show dueN 4 1 3 = [4, 5, 8] by decide]; decide +kernel
theorem ok_4_2_1 : okD (dueN 4 2 1) = true := by rw [show dueN 4 2 1 = [4, 6, 7] by decide]; decide +kernel
theorem ok_4_2_2 : okD (dueN 4 2 2) = true := by rw [show dueN 4 2 2 = [4, 6, 9] by decide]; decide +kernel
theorem ok_4_2_3 : okD (dueN 4 2 3) = true := by rw [show dueN 4 2 3 = [4, 6, 9] by decide]; decide +kernel
theorem ok_4_3_1 : okD (dueN 4 3 1) = true := by rw [show dueN 4 3 1 = [4, 7, 8] by decide]; decide +kernel
theorem ok_4_3_2 : okD (dueN 4 3 2) = true := by rw [show dueN 4 3 2 = [4, 7, 9] by decide]; decide +kernel
theorem ok_4_3_3 : okD (dueN 4 3 3) = true := by rw [show dueN 4 3 3 = [4, 7, 10] by decide]; decide +kernel
theorem ok_5_1_1 : okD (dueN 5 1 1) = true := by rw [show dueN 5 1 1 = [5, 6, 7] by decide]; decide +kernel
theorem ok_5_1_2 : okD (dueN 5 1 2) = true := by rw [show dueN 5 1 2 = [5, 6, 8] by decide]; decide +kernel
theorem ok_5_1_3 : okD (dueN 5 1 3) = true := by rw [show dueN 5 1 3 = [5, 6, 9] by decide]; decide +kernel
theorem ok_5_2_1 : okD (dueN 5 2 1) = true := by rw [show dueN 5 2 1 = [5, 7, 8] by decide]; decide +kernel
theorem ok_5_2_2 : okD (dueN 5 2 2) = true := by rw [show dueN 5 2 2 = [5, 7, 9] by decide]; decide +kernel
theorem ok_5_2_3 : okD (dueN 5 2 3) = true := by rw [show dueN 5 2 3 = [5, 7, 10] by decide]; decide +kernel
theorem ok_5_3_1 : okD (dueN 5 3 1) = true := by rw [show dueN 5 3 1 = [5, 8, 9] by decide]; decide +kernel
theorem ok_5_3_2 : okD (dueN 5 3 2) = true := by rw [show dueN 5 3 2 = [5, 8, 10] by decide]; decide +kernel
theorem ok_5_3_3 : okD (dueN 5 3 3) = true := by rw [show dueN 5 3 3 = [5, 8, 11] by decide]; decide +kernel
theorem ok_6_1_1 : okD (dueN 6 1 1) = true := by rw [show dueN 6 1 1 = [6, 7, 8] by decide]; decide +kernel
theorem ok_6_1_2 : okD (dueN 6 1 2) = true := by rw [show dueN 6 1 2 = [6, 7, 9] by decide]; decide +kernel
theorem ok_6_1_3 : okD (dueN 6 1 3) = true := by rw [show dueN 6 1 3 = [6, 7, 10] by decide]; decide +kernel
theorem ok_6_2_1 : okD (dueN 6 2 1) = true := by rw [show dueN 6 2 1 = [6, 8, 9] by decide]; decide +kernel
theorem ok_6_2_2 : okD (dueN 6 2 2) = true := by rw [show dueN 6 2 2 = [6, 8, 11] by decide]; decide +kernel
theorem ok_6_2_3 : okD (dueN 6 2 3) = true := by rw [show dueN 6 2 3 = [6, 8, 11] by decide]; decide +kernel
theorem ok_6_3_1 : okD (dueN 6 3 1) = true := by rw [show dueN 6 3 1 = [6, 9, 10] by decide]; decide +kernel
theorem ok_6_3_2 : okD (dueN 6 3 2) = true := by rw [show dueN 6 3 2 = [6, 9, 11] by decide]; decide +kernel
theorem ok_6_3_3 : okD (dueN 6 3 3) = true := by rw [show dueN 6 3 3 = [6, 9, 13] by decide]; decide +kernel
theorem ok_all (ab c d : Nat) (h1 : 2 ≤ ab) (h2 : ab ≤ 6) (h3 : 1 ≤ c) (h4 : c ≤ 3) (h5 : 1 ≤ d) (h6 : d ≤ 3) : okD (dueN ab c d) = true := by
  have e1 : ab = 2 ∨ ab = 3 ∨ ab = 4 ∨ ab = 5 ∨ ab = 6 := by omega
  have e2 : c = 1 ∨ c = 2 ∨ c = 3 := by omega
  have e3 : d = 1 ∨ d = 2 ∨ d = 3 := by omega
  rcases e1 with rfl | rfl | rfl | rfl | rfl <;> rcases e2 with rfl | rfl | rfl <;> rcases e3 with rfl | rfl | rfl
  · exact ok_2_1_1
  · exact ok_2_1_2
  · exact ok_2_1_3
  · exact ok_2_2_1
  · exact ok_2_2_2
  · exact ok_2_2_3
  · exact ok_2_3_1
  · exact ok_2_3_2
  · exact ok_2_3_3
  · exact ok_3_1_1
  · exact ok_3_1_2
  · exact ok_3_1_3
  · exact ok_3_2_1
  · exact ok_3_2_2
  · exact ok_3_2_3
  · exact ok_3_3_1
  · exact ok_3_3_2
  · exact ok_3_3_3
  · exact ok_4_1_1
  · exact ok_4_1_2
  · exact ok_4_1_3
  · exact ok_4_2_1
  · exact ok_4_2_2
  · exact ok_4_2_3
  · exact ok_4_3_1
  · exact ok_4_3_2
  · exact ok_4_3_3
  · exact ok_5_1_1
  · exact ok_5_1_2
  · exact ok_5_1_3
  · exact ok_5_2_1
  · exact ok_5_2_2
  · exact ok_5_2_3
  · exact ok_5_3_1
  · exact ok_5_3_2
  · exact ok_5_3_3
  · exact ok_6_1_1
  · exact ok_6_1_2
  · exact ok_6_1_3
  · exact ok_6_2_1
  · exact ok_6_2_2
  · exact ok_6_2_3
  · exact ok_6_3_1
  · exact ok_6_3_2
  · exact ok_6_3_3
theorem dueOf_eq (k0 k1 k2 k3 : Nat) : dueOf k0 k1 k2 k3 = dueN (1 + k0 / 3 + (1 + k1 / 3)) (1 + k2 / 3) (1 + k3 / 3) := by
  have l2 : lenOf [k0, k1] = 1 + k0 / 3 + (1 + k1 / 3) := by simp [lenOf]
  have l3 : lenOf [k0, k1, k2] = 1 + k0 / 3 + (1 + k1 / 3) + (1 + k2 / 3) := by simp [lenOf]; omega
  have l4 : lenOf [k0, k1, k2, k3] = 1 + k0 / 3 + (1 + k1 / 3) + (1 + k2 / 3) + (1 + k3 / 3) := by simp [lenOf]; omega
  have l5 : lenOf [k0, k1, k2, k3, 2] = 1 + k0 / 3 + (1 + k1 / 3) + (1 + k2 / 3) + (1 + k3 / 3) + 1 := by simp [lenOf]; omega
  unfold dueOf dueN row2Of
  rw [l2, l3, l4]
  split
  · rw [l5]
  · rw [l4]
theorem ok_due (k0 k1 k2 k3 : Nat) (b0 : k0 < 9) (b1 : k1 < 9) (b2 : k2 < 9) (b3 : k3 < 9) : okD (dueOf k0 k1 k2 k3) = true := by
  rw [dueOf_eq]
  exact ok_all _ _ _ (by omega) (by omega) (by omega) (by omega) (by omega) (by omega)
end S_PL6
section S_LW3
section
variable {w : World} {base : Heap} {p : Program} {loose : List Str} {mean : ExcName → Option Value} {mg mb : Str → Option Value}
set_option maxHeartbeats 4000000
local macro_rules | `(tactic| walk_at "call builtin:str.join") => `(tactic| (refine Stop.out ?_))
local macro_rules | `(tactic| walk_at "call ref") => `(tactic| (refine Stop.out ?_))
local macro_rules | `(tactic| walk_at "call builtin:list.append") => `(tactic| (refine Stop.out ?_))
local macro_rules | `(tactic| walk_at "call builtin:chr") => `(tactic| (refine Stop.out ?_))
local macro_rules | `(tactic| k_ne) => `(tactic| first | (with_reducible assumption) | (dsimp only; with_reducible assumption))
local macro_rules | `(tactic| walk_at "subscriptTail Name Name ref int") => `(tactic| (refine Stop.out ?_))
local macro_rules | `(tactic| walk_at "execs cons") => `(tactic| (with_reducible refine stAssign 172 ?_))

local macro_rules | `(tactic| walk_at "execs cons Assign cons") => `(tactic| (with_reducible refine stAssign 172 ?_))


theorem bes_ok (j : Nat) : chrOk (BES.getD j 0) := by
  unfold chrOk
  have h : ∀ j : Fin 16, 0 ≤ BES.getD j 0 ∧ BES.getD j 0 ≤ 1114111 := by decide
  by_cases hj : j < 16
  · exact h ⟨j, hj⟩
  · rw [List.getD_eq_getElem?_getD, List.getElem?_eq_none (by show 16 ≤ j; omega)]; decide
theorem bes_in (x : Int) : (BES.getD (x.fmod 16).toNat 0).toNat ∈ BESN := by
  have h : ∀ j : Fin 16, (BES.getD j 0).toNat ∈ BESN := by decide
  have h0 := fm x 16 (by decide)
  exact h ⟨(x.fmod 16).toNat, by omega⟩
theorem uns_eq : UNS = U27 := by decide
theorem mean_len : ∀ z : Fin 9, (meanT.getD z Str.empty).length = 1 + z / 3 := by decide +kernel
theorem mean_lenN (z : Nat) (hz : z < 9) : (meanT.getD z Str.empty).length = 1 + z / 3 := mean_len ⟨z, hz⟩
theorem mean_sum (R : List Nat) (hR : ∀ k ∈ R, k < 9) : ((R.map fun k => meanT.getD k Str.empty).map (·.length)).sum = lenOf R := by
  unfold lenOf
  induction R with
  | nil => rfl
  | cons a r ih =>
    rw [List.map_cons, List.map_cons, List.map_cons, List.sum_cons, List.sum_cons, ih fun k hk => hR k (.tail _ hk), mean_lenN a (hR a (.head _))]
noncomputable def rwB : List Stmt := match ((fdB 23).drop 9).headD (.Pass default) with | .For _ _ b _ _ => b | _ => []
theorem row_turn (g : Heap) (L fa : Addr) (cd : Value) (oS : Obj) (s : Shared) (QT : Flow → Shared → Prop) (E1 : Value → Shared → Prop) (h : Heap) (tk : Nat) (m : Str → Option Value) (i : Nat) (ti : Tok) (hi2 : i ≤ 2)
    (ro rk be un ca sz : Addr) (rvals bvs uvs us vk svs : List Value) (k ksz : Nat) (R : List Nat) (c0 c1 c2 : Int) (rest : List (Addr × Obj))
    (B : Below callerA base [] g) (X : (KK w.params).In g) (T : Top p loose mean mg mb g)
    (F4 : Fr g L h m) (pk : m (Str.ofString "k") = some (.int (0 + (i : Int)) ti)) (p0 : m (Str.ofString "rows") = some (.ref ro)) (p1 : m (Str.ofString "beside") = some (.ref be)) (p2 : m (Str.ofString "unseen") = some (.ref un)) (p3 : m (Str.ofString "cells") = some (.ref ca))
    (N4 : News g L h ((sz, listOf svs.toArray ksz) :: (rk, listOf vk.toArray 0) :: (ro, listOf rvals.toArray 0) :: (be, listOf bvs.toArray 0) :: (un, listOf uvs.toArray 0) :: (ca, listOf us.toArray k) :: (L + 1 + 1, oS) :: rest))
    (dS2 : oS.data = .cell (some (.ref sz))) (hr : rvals[i]? = some (.ref rk)) (hrl : rvals.length = 3) (iR : IntsAre vk (R.map fun n : Nat => (n : Int))) (b : ∀ k ∈ R, k < 9) (n : R.length ≤ 5)
    (ib : IntsAre bvs BES) (iu : IntsAre uvs UNS) (ic : IntsAre us [c0, c1, c2]) (hc0 : 0 ≤ c2) (hc1 : c2 ≤ 300 + 63 * 1000000) (hsl3 : svs.length ≤ 3)
    (hap : ∀ p ∈ (rk, listOf vk.toArray 0) :: (ro, listOf rvals.toArray 0) :: (be, listOf bvs.toArray 0) :: (un, listOf uvs.toArray 0) :: (ca, listOf us.toArray k) :: (L + 1 + 1, oS) :: rest, p.1 ≠ sz)
    (done : ∀ h' tk' m' t, Fr g L h' m' → m' (Str.ofString "rows") = some (.ref ro) → m' (Str.ofString "beside") = some (.ref be) → m' (Str.ofString "unseen") = some (.ref un) → m' (Str.ofString "cells") = some (.ref ca) →
      News g L h' ((sz, listOf (svs ++ [Value.int ((lenOf R : Nat) : Int) t]).toArray (ksz + 1)) :: (rk, listOf vk.toArray 0) :: (ro, listOf rvals.toArray 0) :: (be, listOf bvs.toArray 0) :: (un, listOf uvs.toArray 0) :: (ca, listOf us.toArray k) :: (L + 1 + 1, oS) :: rest) → QT .next { s with heap := h', toks := tk' }) :
    wpAny (model Challenge.rw_tl0059_01.row.prog w) (callerA.deeper (envOfC (Str.ofString "law") (fdS 23) L fa cd)) (execs rwB (envOfC (Str.ofString "law") (fdS 23) L fa cd)) QT (lawE w L fa cd E1) { s with heap := h, toks := tk } := by
  w_top off
  replace F4 := fr_pin F4 (x := Str.ofString "rows") (by exact p0)
  replace F4 := fr_pin F4 (x := Str.ofString "beside") (by exact p1)
  replace F4 := fr_pin F4 (x := Str.ofString "unseen") (by exact p2)
  replace F4 := fr_pin F4 (x := Str.ofString "cells") (by exact p3)
  replace F4 := fr_pin F4 (x := Str.ofString "k") (by exact pk)
  k_steps
  refine Stop.go ?_
  refine item_litK (vs := rvals) (v := .ref rk) (News.isList (by assumption) (by k_mem)) (by omega) (by omega) (by rw [Int.zero_add]; exact hr) ?_
  k_steps
  refine Stop.go ?_
  (with_reducible rename Fr _ _ _ _ => F7)
  (with_reducible rename News _ _ _ _ => N7)
  have hvl := IntsAre.length iR
  rw [List.length_map] at hvl
  refine LCg.CompSrc.ledger rfl F7 N7 (ax := rk) (its := vk.toArray) (k := 0) (by k_mem) (by rw [sizeLine_eq, List.size_toArray]; omega) (fun g5 => ?_)
  refine kct_list (fun k => meanT.getD k.toNat Str.empty) iR ?_ ?_
  · intro z tz I2 oI2 C2 oC2 D2 m₂ ys h5 tk5 E5 hz hC hx F6 N6 off6 ne6 mk
    obtain ⟨z, hzn, rfl⟩ := List.mem_map.mp hz
    have hz1 := b z hzn
    k_steps
    refine Stop.go ?_
    refine KTb.item_list (ws := meanT) (vs := [_, _, _, _, _, _, _, _, _]) (News.isList (by assumption) (by k_mem)) (.cons _ _ (.cons _ _ (.cons _ _ (.cons _ _ (.cons _ _ (.cons _ _ (.cons _ _ (.cons _ _ (.cons _ _ .nil))))))))) (by omega) (by show (z : Int) < 9; omega) (by omega) (fun t5 _ => ?_)
    k_steps
    refine LCg.CompEnd.intro (by assumption) (by assumption) _ (fun p hp => .tail _ hp) off6 (.inr ⟨_, by k_mem, rfl, _, rfl⟩) (kct_el rfl rfl rfl)
  unfold KPfDone
  intro ys hys hyl D h6 tk6 F6 N6 off6
  simp only [LCg.Off1, and_true] at off6
  k_steps
  refine Stop.go ?_
  have hsum := mean_sum R b
  have hlen := lenOf_le R b
  refine join_listC (News.isList (by assumption) (by k_mem)) (StrsAre.of_carried (ys := R.map fun k => meanT.getD k Str.empty) ?_) (by decide) ?_ (fun t7 k7 => ?_)
  · rw [List.map_map] at hys ⊢
    exact hys
  · rw [hsum, List.length_map]
    omega
  have hxl : (Txt.join (Str.ofString "") (R.map fun k => meanT.getD k Str.empty)).length = lenOf R := by
    exact join_len R b _ mean_lenN
  generalize hxj : Txt.join (Str.ofString "") (R.map fun k => meanT.getD k Str.empty) = xj at *
  k_steps
  refine Stop.go ?_
  refine k_chr (bes_ok _) ?_
  k_steps
  refine Stop.go ?_
  refine item_litK (vs := rvals) (v := .ref rk) (News.isList (by assumption) (by k_mem)) (by omega) (by omega) (by rw [Int.zero_add]; exact hr) ?_
  k_steps
  refine Stop.go ?_
  have hsp : ∀ j : Int, 0 ≤ j → j ≤ 2 → 0 ≤ ([c0, c1, c2].getD (Int.toNat 2) 0).fdiv 16 + 7 * (0 + j) ∧ ([c0, c1, c2].getD (Int.toNat 2) 0).fdiv 16 + 7 * (0 + j) < 2 ^ 40 := fun j h0 h2 => by
    show 0 ≤ c2.fdiv 16 + 7 * (0 + j) ∧ c2.fdiv 16 + 7 * (0 + j) < 2 ^ 40
    rw [Int.fdiv_eq_ediv_of_nonneg _ (by decide)]
    omega
  k_dflt (refine' mcv_use (mc_typed rk un 0 0 _ _ _ _ _ iR (uns_eq ▸ iu) ?ka ?kb (hsp _ (Int.natCast_nonneg _) (Int.ofNat_le.mpr hi2)).1 (hsp _ (Int.natCast_nonneg _) (Int.ofNat_le.mpr hi2)).2) ?k1 ?k2 ?k3 ?k4 ?k5 ?k6 ?k7 ?k8 ?k9 ?_)
  case ka =>
    intro k hk
    obtain ⟨z, hz, rfl⟩ := List.mem_map.mp hk
    have := b z hz
    omega
  case kb =>
    rw [List.length_map]; exact n
  (case k1 => k_asm)
  (case k2 => k_asm)
  (case k3 => k_asm)
  (case k4 => k_asm)
  (case k5 => k_asm)
  (case k6 => first | exact rfl | assumption)
  case k7 =>
    exact List.forall_mem_cons.mpr ⟨by k_mem, List.forall_mem_cons.mpr ⟨by k_mem, fun _ h => nomatch h⟩⟩
  (case k8 => first | ktr_room | decide | exact Nat.lt_of_ble_eq_true rfl)
  (case k9 => first | ktr_units | decide | exact Nat.lt_of_ble_eq_true rfl)
  k_whole
  intro t7 h7 tk7 F7 N7
  have hpt := prep_typed R (([c0, c1, c2].getD (Int.toNat 2) 0).fdiv 16 + 7 * (0 + ((i : Nat) : Int))) b (BES.getD (([c0, c1, c2].getD (Int.toNat 2) 0 + 5 * (0 + ((i : Nat) : Int))).fmod 16).toNat 0).toNat (bes_in _)
  rw [hxj] at hpt
  have hty : (mkS (typedN (([c0, c1, c2].getD (Int.toNat 2) 0).fdiv 16 + 7 * (0 + ((i : Nat) : Int))) (R.map fun n : Nat => (n : Int)) (R.map fun n : Nat => (n : Int)).length)).length ≤ 10 := by
    rw [mkS_len]
    refine Nat.le_trans (typedN_len _ _ _) ?_
    rw [List.length_map]
    omega
  generalize (BES.getD (([c0, c1, c2].getD (Int.toNat 2) 0 + 5 * (0 + ((i : Nat) : Int))).fmod 16).toNat 0).toNat = stay at *
  generalize mkS (typedN (([c0, c1, c2].getD (Int.toNat 2) 0).fdiv 16 + 7 * (0 + ((i : Nat) : Int))) (R.map fun n : Nat => (n : Int)) (R.map fun n : Nat => (n : Int)).length) = xt at *
  have h1l : (⟨#[stay]⟩ : Str).length = 1 := rfl
  k_steps
  refine Stop.go ?_
  k_dflt (refine' mcv_use (mc_concat _ _ _ _ ?ka) ?k1 ?k2 ?k3 ?k4 ?k5 ?k6 ?k7 ?k8 ?k9 ?_)
  case ka => omega
  (case k1 => k_asm)
  (case k2 => k_asm)
  (case k3 => k_asm)
  (case k4 => k_asm)
  (case k5 => k_asm)
  (case k6 => first | exact rfl | assumption)
  (case k7 => exact fun _ h => nomatch h)
  (case k8 => first | ktr_room | decide | exact Nat.lt_of_ble_eq_true rfl)
  (case k9 => first | ktr_units | decide | exact Nat.lt_of_ble_eq_true rfl)
  k_whole
  intro t8 h8 tk8 F8 N8
  k_steps
  refine Stop.go ?_
  k_dflt (refine' mcv_use (mc_prep _ _ ?ka) ?k1 ?k2 ?k3 ?k4 ?k5 ?k6 ?k7 ?k8 ?k9 ?_)
  case ka =>
    rw [Str.length_append]
    omega
  (case k1 => k_asm)
  (case k2 => k_asm)
  (case k3 => k_asm)
  (case k4 => k_asm)
  (case k5 => k_asm)
  (case k6 => first | exact rfl | assumption)
  (case k7 => exact fun _ h => nomatch h)
  (case k8 => first | ktr_room | decide | exact Nat.lt_of_ble_eq_true rfl)
  (case k9 => first | ktr_units | decide | exact Nat.lt_of_ble_eq_true rfl)
  k_whole
  intro t9 h9 tk9 F9 N9
  rw [hpt]
  k_steps
  · rename ((_ != _) = true) => hne
    exact absurd hne (by simp)
  refine Stop.go ?_
  have hsl := slice_drop (xj ++ (⟨#[stay]⟩ : Str)) (by rw [Str.length_append]; omega)
  rw [Str.length_append, h1l, Nat.add_sub_cancel, hxl] at hsl
  generalize Txt.slice (xj ++ (⟨#[stay]⟩ : Str)) none (some (-1)) = xs at *
  k_dflt (refine' mcv_use (mc_lenh _ _ ?ka) ?k1 ?k2 ?k3 ?k4 ?k5 ?k6 ?k7 ?k8 ?k9 ?_)
  case ka => omega
  (case k1 => k_asm)
  (case k2 => k_asm)
  (case k3 => k_asm)
  (case k4 => k_asm)
  (case k5 => k_asm)
  (case k6 => first | exact rfl | assumption)
  (case k7 => exact fun _ h => nomatch h)
  (case k8 => first | ktr_room | decide | exact Nat.lt_of_ble_eq_true rfl)
  (case k9 => first | ktr_units | decide | exact Nat.lt_of_ble_eq_true rfl)
  k_whole
  intro ta ha tka Fa Na
  rw [hsl]
  k_steps
  refine Stop.go ?_
  (with_reducible rename Fr _ _ _ _ => Fb)
  (with_reducible rename News _ _ _ _ => Nb)
  refine my_append (pre := [_]) Fb Nb (by rw [sizeLine_eq, List.size_toArray]; exact Nat.le_trans hsl3 (by decide)) ?_ ?_ (fun hz Fz Nz => ?_)
  · intro p hp
    rw [List.mem_singleton.mp hp]
    exact Ne.symm off6.1
  · exact hap
  have hpush : ∀ v : Value, svs.toArray.push v = (svs ++ [v]).toArray := fun v => by rw [List.push_toArray]
  rw [hpush] at Nz
  k_steps
  exact done _ _ _ _ (by assumption) rfl rfl rfl rfl (news_sub Nz fun p hp => .tail _ hp)

theorem law_3 (g : Heap) (L fa : Addr) (cd : Value) (o1 o2 o3 o4 o5 o6 : Obj) (s : Shared) (QK : Flow → Shared → Prop) (E1 : Value → Shared → Prop)
    (h : Heap) (tk : Nat) (m : Str → Option Value) (du ro r2 r1 r0 be un ca : Addr) (dvs bvs uvs us v0 v1 v2 : List Value) (k kd : Nat) (R0 R1 R2 : List Nat) (c0 c1 c2 : Int)
    (B : Below callerA base [] g) (X : (KK w.params).In g) (T : Top p loose mean mg mb g)
    (w2 w3 w4 w5 w6 : Option Value) (d1 : o1.data = .cell (some (.ref du))) (d2 : o2.data = .cell w2) (d3 : o3.data = .cell w3) (d4 : o4.data = .cell w4) (d5 : o5.data = .cell w5) (d6 : o6.data = .cell w6)
    (F : Fr g L h m) (p0 : m (Str.ofString "rows") = some (.ref ro)) (p1 : m (Str.ofString "beside") = some (.ref be)) (p2 : m (Str.ofString "unseen") = some (.ref un)) (p3 : m (Str.ofString "cells") = some (.ref ca))
    (N : News g L h ((du, listOf dvs.toArray kd) :: (ro, listOf #[.ref r0, .ref r1, .ref r2] 0) :: (r2, listOf v2.toArray 0) :: (r1, listOf v1.toArray 0) :: (r0, listOf v0.toArray 0) :: (be, listOf bvs.toArray 0) :: (un, listOf uvs.toArray 0) :: (ca, listOf us.toArray k) :: (L + 1 + 1 + 1 + 1 + 1 + 1, o6) :: (L + 1 + 1 + 1 + 1 + 1, o5) :: (L + 1 + 1 + 1 + 1, o4) :: (L + 1 + 1 + 1, o3) :: (L + 1 + 1, o2) :: (L + 1, o1) :: []))
    (i0 : IntsAre v0 (R0.map fun n : Nat => (n : Int))) (i1 : IntsAre v1 (R1.map fun n : Nat => (n : Int))) (i2 : IntsAre v2 (R2.map fun n : Nat => (n : Int)))
    (ib : IntsAre bvs BES) (iu : IntsAre uvs UNS) (ic : IntsAre us [c0, c1, c2]) (hc0 : 0 ≤ c2) (hc1 : c2 ≤ 300 + 63 * 1000000)
    (b0 : ∀ k ∈ R0, k < 9) (b1 : ∀ k ∈ R1, k < 9) (b2 : ∀ k ∈ R2, k < 9) (n0 : R0.length ≤ 5) (n1 : R1.length ≤ 5) (n2 : R2.length ≤ 5)
    (a1 : Ap L du) (a2 : Ap L ro) (a3 : Ap L r2) (a4 : Ap L r1) (a5 : Ap L r0) (a6 : Ap L be) (a7 : Ap L un) (a8 : Ap L ca)
    (next : ∀ (h' : Heap) (tk' : Nat) (m' : Str → Option Value) (sz : Addr) (svs : List Value) (ksz : Nat) (oS : Obj),
      Fr g L h' m' → News g L h' ((sz, listOf svs.toArray ksz) :: (du, listOf dvs.toArray kd) :: (L + 1 + 1 + 1 + 1 + 1 + 1, o6) :: (L + 1 + 1 + 1 + 1 + 1, o5) :: (L + 1 + 1 + 1 + 1, o4) :: (L + 1 + 1 + 1, o3) :: (L + 1 + 1, oS) :: (L + 1, o1) :: []) → oS.data = .cell (some (.ref sz)) → IntsAre svs ([lenOf R0, lenOf R1, lenOf R2].map fun n : Nat => (n : Int)) → Ap L sz →
      wpAny (model Challenge.rw_tl0059_01.row.prog w) (callerA.deeper (envOfC (Str.ofString "law") (fdS 23) L fa cd)) (execs ((fdB 23).drop 10) (envOfC (Str.ofString "law") (fdS 23) L fa cd)) QK
        (lawE w L fa cd E1) { s with heap := h', toks := tk' }) :
    wpAny (model Challenge.rw_tl0059_01.row.prog w) (callerA.deeper (envOfC (Str.ofString "law") (fdS 23) L fa cd)) (execs ((fdB 23).drop 8) (envOfC (Str.ofString "law") (fdS 23) L fa cd)) QK
        (lawE w L fa cd E1) { s with heap := h, toks := tk } := by
  w_top off
  have nn1 : du ≠ L + 1 + 1 := Ne.symm a1.2.1
  have nn2 : ro ≠ L + 1 + 1 := Ne.symm a2.2.1
  have nn3 : r2 ≠ L + 1 + 1 := Ne.symm a3.2.1
  have nn4 : r1 ≠ L + 1 + 1 := Ne.symm a4.2.1
  have nn5 : r0 ≠ L + 1 + 1 := Ne.symm a5.2.1
  have nn6 : be ≠ L + 1 + 1 := Ne.symm a6.2.1
  have nn7 : un ≠ L + 1 + 1 := Ne.symm a7.2.1
  have nn8 : ca ≠ L + 1 + 1 := Ne.symm a8.2.1
  clear a1 a2 a3 a4 a5 a6 a7 a8
  have e3 : L + 1 + 1 + 1 ≠ L + 1 + 1 := Nat.succ_ne_self _
  have e4 : L + 1 + 1 + 1 + 1 ≠ L + 1 + 1 := Nat.ne_of_gt (Nat.lt_succ_of_lt (Nat.lt_succ_self _))
  have e5 : L + 1 + 1 + 1 + 1 + 1 ≠ L + 1 + 1 := Nat.ne_of_gt (Nat.lt_succ_of_lt (Nat.lt_succ_of_lt (Nat.lt_succ_self _)))
  have e6 : L + 1 + 1 + 1 + 1 + 1 + 1 ≠ L + 1 + 1 := Nat.ne_of_gt (Nat.lt_succ_of_lt (Nat.lt_succ_of_lt (Nat.lt_succ_of_lt (Nat.lt_succ_self _))))
  have e1 : L + 1 ≠ L + 1 + 1 := Nat.ne_of_lt (Nat.lt_succ_self _)
  have F4 := F
  replace F4 := fr_pin F4 (x := Str.ofString "rows") (by exact p0)
  replace F4 := fr_pin F4 (x := Str.ofString "beside") (by exact p1)
  replace F4 := fr_pin F4 (x := Str.ofString "unseen") (by exact p2)
  replace F4 := fr_pin F4 (x := Str.ofString "cells") (by exact p3)
  clear F
  k_steps
  refine Stop.go ?_
  (with_reducible rename IsRange _ _ _ _ _ _ _ _ => hr)
  (with_reducible rename Fr _ _ _ _ => F5)
  (with_reducible rename News _ _ _ _ => N5)
  (rename (_ = Data.cell (some _)) => dS)
  (rename (_ < _ ∧ _) => ltS)
  refine range_loopO (n := 3) (fun i m nx => m (Str.ofString "rows") = some (.ref ro) ∧ m (Str.ofString "beside") = some (.ref be) ∧ m (Str.ofString "unseen") = some (.ref un) ∧ m (Str.ofString "cells") = some (.ref ca) ∧
    ∃ sz svs ksz oS, oS.data = .cell (some (.ref sz)) ∧ IntsAre svs (([lenOf R0, lenOf R1, lenOf R2].take i).map fun n : Nat => (n : Int)) ∧ AllLt sz ((du, listOf dvs.toArray kd) :: (ro, listOf #[.ref r0, .ref r1, .ref r2] 0) :: (r2, listOf v2.toArray 0) :: (r1, listOf v1.toArray 0) :: (r0, listOf v0.toArray 0) :: (be, listOf bvs.toArray 0) :: (un, listOf uvs.toArray 0) :: (ca, listOf us.toArray k) :: (L + 1 + 1 + 1 + 1 + 1 + 1, o6) :: (L + 1 + 1 + 1 + 1 + 1, o5) :: (L + 1 + 1 + 1 + 1, o4) :: (L + 1 + 1 + 1, o3) :: (L + 1 + 1, oS) :: (L + 1, o1) :: []) ∧ nx = (sz, listOf svs.toArray ksz) :: (du, listOf dvs.toArray kd) :: (ro, listOf #[.ref r0, .ref r1, .ref r2] 0) :: (r2, listOf v2.toArray 0) :: (r1, listOf v1.toArray 0) :: (r0, listOf v0.toArray 0) :: (be, listOf bvs.toArray 0) :: (un, listOf uvs.toArray 0) :: (ca, listOf us.toArray k) :: (L + 1 + 1 + 1 + 1 + 1 + 1, o6) :: (L + 1 + 1 + 1 + 1 + 1, o5) :: (L + 1 + 1 + 1 + 1, o4) :: (L + 1 + 1 + 1, o3) :: (L + 1 + 1, oS) :: (L + 1, o1) :: [])
    rfl hr (by decide) (by decide) F5 N5 ⟨rfl, rfl, rfl, rfl, _, [], 0, _, dS, .nil, ?_, rfl⟩ ?_ ?_
  · simp only [AllLt, and_true]
    exact ltS
  · rintro I i ti m₁ nx h₁ tk₁ own hi3 hI ⟨p0, p1, p2, p3, sz, svs, ksz, oS, dS2, hsv, hlt, rfl⟩ hoff hown ⟨oI, hIo⟩ F4 N4
    have hlt2 := hlt
    simp only [AllLt, and_true] at hlt
    replace F4 := fr_pin F4 (x := Str.ofString "rows") (by exact p0)
    replace F4 := fr_pin F4 (x := Str.ofString "beside") (by exact p1)
    replace F4 := fr_pin F4 (x := Str.ofString "unseen") (by exact p2)
    replace F4 := fr_pin F4 (x := Str.ofString "cells") (by exact p3)
    simp only [List.cons_append, List.nil_append] at N4
    clear N5 F5 hI
    have hsvl : svs.length ≤ 3 := by
      rw [hsv.length, List.length_map, List.length_take]
      exact Nat.min_le_right _ _
    have hap : ∀ p ∈ ((du, listOf dvs.toArray kd) :: (ro, listOf #[.ref r0, .ref r1, .ref r2] 0) :: (r2, listOf v2.toArray 0) :: (r1, listOf v1.toArray 0) :: (r0, listOf v0.toArray 0) :: (be, listOf bvs.toArray 0) :: (un, listOf uvs.toArray 0) :: (ca, listOf us.toArray k) :: (L + 1 + 1 + 1 + 1 + 1 + 1, o6) :: (L + 1 + 1 + 1 + 1 + 1, o5) :: (L + 1 + 1 + 1 + 1, o4) :: (L + 1 + 1 + 1, o3) :: (L + 1 + 1, oS) :: (L + 1, o1) :: []) ++ own, p.1 ≠ sz := fun p hp => by
      rcases List.mem_append.mp hp with hp2 | hp2
      · exact Nat.ne_of_lt (allLt_mem hlt2 p hp2)
      · rw [hown p hp2]
        have := hoff (sz, _) (.head _)
        exact fun e => this (List.mem_singleton.mpr e.symm)
    have go : ∀ (rk : Addr) (vk : List Value) (R : List Nat), ([.ref r0, .ref r1, .ref r2] : List Value)[i]? = some (.ref rk) → (rk, listOf vk.toArray 0) ∈ [(r2, listOf v2.toArray 0), (r1, listOf v1.toArray 0), (r0, listOf v0.toArray 0)] → [lenOf R0, lenOf R1, lenOf R2][i]? = some (lenOf R) →
        IntsAre vk (R.map fun n : Nat => (n : Int)) → (∀ k ∈ R, k < 9) → R.length ≤ 5 →
        wpAny (model Challenge.rw_tl0059_01.row.prog w) (callerA.deeper (envOfC (Str.ofString "law") (fdS 23) L fa cd)) (execs rwB (envOfC (Str.ofString "law") (fdS 23) L fa cd))
          (LPost g (envOfC (Str.ofString "law") (fdS 23) L fa cd).locals [I] own (fun m nx => m (Str.ofString "rows") = some (.ref ro) ∧ m (Str.ofString "beside") = some (.ref be) ∧ m (Str.ofString "unseen") = some (.ref un) ∧ m (Str.ofString "cells") = some (.ref ca) ∧
            ∃ sz svs ksz oS, oS.data = .cell (some (.ref sz)) ∧ IntsAre svs (([lenOf R0, lenOf R1, lenOf R2].take (i + 1)).map fun n : Nat => (n : Int)) ∧ AllLt sz ((du, listOf dvs.toArray kd) :: (ro, listOf #[.ref r0, .ref r1, .ref r2] 0) :: (r2, listOf v2.toArray 0) :: (r1, listOf v1.toArray 0) :: (r0, listOf v0.toArray 0) :: (be, listOf bvs.toArray 0) :: (un, listOf uvs.toArray 0) :: (ca, listOf us.toArray k) :: (L + 1 + 1 + 1 + 1 + 1 + 1, o6) :: (L + 1 + 1 + 1 + 1 + 1, o5) :: (L + 1 + 1 + 1 + 1, o4) :: (L + 1 + 1 + 1, o3) :: (L + 1 + 1, oS) :: (L + 1, o1) :: []) ∧ nx = (sz, listOf svs.toArray ksz) :: (du, listOf dvs.toArray kd) :: (ro, listOf #[.ref r0, .ref r1, .ref r2] 0) :: (r2, listOf v2.toArray 0) :: (r1, listOf v1.toArray 0) :: (r0, listOf v0.toArray 0) :: (be, listOf bvs.toArray 0) :: (un, listOf uvs.toArray 0) :: (ca, listOf us.toArray k) :: (L + 1 + 1 + 1 + 1 + 1 + 1, o6) :: (L + 1 + 1 + 1 + 1 + 1, o5) :: (L + 1 + 1 + 1 + 1, o4) :: (L + 1 + 1 + 1, o3) :: (L + 1 + 1, oS) :: (L + 1, o1) :: []) { s with heap := h₁, toks := tk₁ } (fun f s' => match f with | .next => wpAny (model Challenge.rw_tl0059_01.row.prog w) (callerA.deeper (envOfC (Str.ofString "law") (fdS 23) L fa cd)) (execs ((fdB 23).drop 10) (envOfC (Str.ofString "law") (fdS 23) L fa cd)) QK (lawE w L fa cd E1) s' | f => QK f s')) (lawE w L fa cd E1) { s with heap := h₁, toks := tk₁ } := by
      intro rk vk R e1 e2 e3 iR b n
      have sub : ∀ p ∈ (rk, listOf vk.toArray 0) :: (ro, listOf #[.ref r0, .ref r1, .ref r2] 0) :: (be, listOf bvs.toArray 0) :: (un, listOf uvs.toArray 0) :: (ca, listOf us.toArray k) :: (L + 1 + 1, oS) :: (((du, listOf dvs.toArray kd) :: (ro, listOf #[.ref r0, .ref r1, .ref r2] 0) :: (r2, listOf v2.toArray 0) :: (r1, listOf v1.toArray 0) :: (r0, listOf v0.toArray 0) :: (be, listOf bvs.toArray 0) :: (un, listOf uvs.toArray 0) :: (ca, listOf us.toArray k) :: (L + 1 + 1 + 1 + 1 + 1 + 1, o6) :: (L + 1 + 1 + 1 + 1 + 1, o5) :: (L + 1 + 1 + 1 + 1, o4) :: (L + 1 + 1 + 1, o3) :: (L + 1 + 1, oS) :: (L + 1, o1) :: []) ++ own), p ∈ ((du, listOf dvs.toArray kd) :: (ro, listOf #[.ref r0, .ref r1, .ref r2] 0) :: (r2, listOf v2.toArray 0) :: (r1, listOf v1.toArray 0) :: (r0, listOf v0.toArray 0) :: (be, listOf bvs.toArray 0) :: (un, listOf uvs.toArray 0) :: (ca, listOf us.toArray k) :: (L + 1 + 1 + 1 + 1 + 1 + 1, o6) :: (L + 1 + 1 + 1 + 1 + 1, o5) :: (L + 1 + 1 + 1 + 1, o4) :: (L + 1 + 1 + 1, o3) :: (L + 1 + 1, oS) :: (L + 1, o1) :: []) ++ own := fun p hp => by
        rcases List.mem_cons.mp hp with rfl | hp
        · rcases List.mem_cons.mp e2 with e | e2
          · rw [e]; refine List.mem_append_left _ (by k_mem)
          rcases List.mem_cons.mp e2 with e | e2
          · rw [e]; refine List.mem_append_left _ (by k_mem)
          rw [List.mem_singleton.mp e2]; refine List.mem_append_left _ (by k_mem)
        rcases List.mem_cons.mp hp with rfl | hp
        · refine List.mem_append_left _ (by k_mem)
        rcases List.mem_cons.mp hp with rfl | hp
        · refine List.mem_append_left _ (by k_mem)
        rcases List.mem_cons.mp hp with rfl | hp
        · refine List.mem_append_left _ (by k_mem)
        rcases List.mem_cons.mp hp with rfl | hp
        · refine List.mem_append_left _ (by k_mem)
        rcases List.mem_cons.mp hp with rfl | hp
        · refine List.mem_append_left _ (by k_mem)
        exact hp
      refine row_turn g L fa cd oS s _ E1 h₁ tk₁ _ i ti (Nat.lt_succ_iff.mp hi3) ro rk be un ca sz [.ref r0, .ref r1, .ref r2] bvs uvs us vk svs k ksz R c0 c1 c2 (((du, listOf dvs.toArray kd) :: (ro, listOf #[.ref r0, .ref r1, .ref r2] 0) :: (r2, listOf v2.toArray 0) :: (r1, listOf v1.toArray 0) :: (r0, listOf v0.toArray 0) :: (be, listOf bvs.toArray 0) :: (un, listOf uvs.toArray 0) :: (ca, listOf us.toArray k) :: (L + 1 + 1 + 1 + 1 + 1 + 1, o6) :: (L + 1 + 1 + 1 + 1 + 1, o5) :: (L + 1 + 1 + 1 + 1, o4) :: (L + 1 + 1 + 1, o3) :: (L + 1 + 1, oS) :: (L + 1, o1) :: []) ++ own) B X T F4 rfl rfl rfl rfl rfl ?_ dS2 e1 rfl iR b n ib iu ic hc0 hc1 hsvl ?_ ?_
      · refine news_sub N4 fun p hp => ?_
        rcases List.mem_cons.mp hp with rfl | hp
        · exact .head _
        · exact .tail _ (sub p hp)
      · exact fun p hp => hap p (sub p hp)
      · intro h' tk' m' t F p0 p1 p2 p3 N'
        refine LEnd.intro F N' (news' := (sz, listOf (svs ++ [Value.int ((lenOf R : Nat) : Int) t]).toArray (ksz + 1)) :: (du, listOf dvs.toArray kd) :: (ro, listOf #[.ref r0, .ref r1, .ref r2] 0) :: (r2, listOf v2.toArray 0) :: (r1, listOf v1.toArray 0) :: (r0, listOf v0.toArray 0) :: (be, listOf bvs.toArray 0) :: (un, listOf uvs.toArray 0) :: (ca, listOf us.toArray k) :: (L + 1 + 1 + 1 + 1 + 1 + 1, o6) :: (L + 1 + 1 + 1 + 1 + 1, o5) :: (L + 1 + 1 + 1 + 1, o4) :: (L + 1 + 1 + 1, o3) :: (L + 1 + 1, oS) :: (L + 1, o1) :: []) (fun p hp => ?_) (fun p hp => ?_) ⟨p0, p1, p2, p3, sz, _, _, oS, dS2, ?_, hlt2, rfl⟩
        · rcases List.mem_cons.mp hp with rfl | hp
          · exact .head _
          · exact .tail _ (.tail _ (.tail _ (.tail _ (.tail _ (.tail _ (.tail _ hp))))))
        · rcases List.mem_cons.mp hp with rfl | hp
          · have := hoff (sz, _) (.head _)
            exact this
          · exact hoff p (.tail _ hp)
        · rw [List.take_add_one, e3, List.map_append]
          exact IntsAre.append hsv (.cons _ _ .nil)
    rcases (show i = 0 ∨ i = 1 ∨ i = 2 by omega) with rfl | rfl | rfl
    · exact go r0 v0 R0 rfl (by simp) rfl i0 b0 n0
    · exact go r1 v1 R1 rfl (by simp) rfl i1 b1 n1
    · exact go r2 v2 R2 rfl (by simp) rfl i2 b2 n2
  · rintro m₁ nx h₁ tk₁ ⟨p0, p1, p2, p3, sz, svs, ksz, oS, dS2, hsv, hlt, rfl⟩ F4 N4
    simp only [AllLt, and_true] at hlt
    clear N5 F5
    k_steps
    refine Stop.go ?_
    exact next _ _ _ sz svs ksz oS F4 (news_at N4 [0, 1, 9, 10, 11, 12, 13, 14]) dS2 hsv (by unfold Ap; omega)
end
end S_LW3
section S_LW4
section
variable {w : World} {base : Heap} {p : Program} {loose : List Str} {mean : ExcName → Option Value} {mg mb : Str → Option Value}
set_option maxHeartbeats 4000000
local macro_rules | `(tactic| walk_at "call ref") => `(tactic| (refine Stop.out ?_))
local macro_rules | `(tactic| walk_at "execs cons") => `(tactic| (with_reducible refine stFor 176 ?_))

local macro_rules | `(tactic| walk_at "execs cons For cons") => `(tactic| (with_reducible refine stFor 176 ?_))

local macro_rules | `(tactic| walk_at "execs cons") => `(tactic| (with_reducible refine stIf 174 ?_))

local macro_rules | `(tactic| walk_at "execs cons If cons") => `(tactic| (with_reducible refine stIf 174 ?_))


local macro_rules | `(tactic| k_ne) => `(tactic| first | (with_reducible assumption) | (dsimp only; with_reducible assumption))
theorem figOf_bit (ns : List Nat) : ∀ a ∈ figOf ns, a = 0 ∨ a = 1 := by
  intro a h
  obtain ⟨k, _, rfl⟩ := List.mem_map.mp h
  omega
theorem law_4 (g : Heap) (L fa : Addr) (cd : Value) (o1 o2 o3 o4 o5 o6 : Obj) (s : Shared) (QK : Flow → Shared → Prop) (E1 : Value → Shared → Prop)
    (h : Heap) (tk : Nat) (m : Str → Option Value) (du sz : Addr) (dvs svs : List Value) (kd ksz : Nat) (D : List Nat)
    (B : Below callerA base [] g) (X : (KK w.params).In g) (T : Top p loose mean mg mb g)
    (w3 w4 w5 w6 : Option Value) (d1 : o1.data = .cell (some (.ref du))) (d2 : o2.data = .cell (some (.ref sz))) (d3 : o3.data = .cell w3) (d4 : o4.data = .cell w4) (d5 : o5.data = .cell w5) (d6 : o6.data = .cell w6)
    (F : Fr g L h m) (N : News g L h ((sz, listOf svs.toArray ksz) :: (du, listOf dvs.toArray kd) :: (L + 1 + 1 + 1 + 1 + 1 + 1, o6) :: (L + 1 + 1 + 1 + 1 + 1, o5) :: (L + 1 + 1 + 1 + 1, o4) :: (L + 1 + 1 + 1, o3) :: (L + 1 + 1, o2) :: (L + 1, o1) :: []))
    (hD : IntsAre dvs (D.map fun n : Nat => (n : Int))) (hS : IntsAre svs (D.map fun n : Nat => (n : Int))) (hl : D.length ≤ 3) (hb : ∀ a ∈ D, 2 ≤ a ∧ a ≤ 40)
    (hcount : (figOf D).count 0 = (gapsOf D).length)
    (a1 : Ap L du) (a2 : Ap L sz)
    (next : ∀ (h' : Heap) (tk' : Nat) (m' : Str → Option Value) (ga fi : Addr) (gvs fvs : List Value) (o3' : Obj),
      Fr g L h' m' → m' (Str.ofString "gaps") = some (.ref ga) → News g L h' ((fi, LCg.lst fvs) :: (ga, LCg.lst gvs) :: (sz, listOf svs.toArray ksz) :: (du, listOf dvs.toArray kd) :: (L + 1 + 1 + 1 + 1 + 1 + 1, o6) :: (L + 1 + 1 + 1 + 1 + 1, o5) :: (L + 1 + 1 + 1 + 1, o4) :: (L + 1 + 1 + 1, o3') :: (L + 1 + 1, o2) :: (L + 1, o1) :: []) → o3'.data = .cell (some (.ref fi)) →
      IntsAre gvs ((gapsOf D).map fun n : Nat => (n : Int)) → IntsAre fvs (figOf D) → (∀ a t, Value.int a t ∈ fvs → t ≠ 0 ∧ t < tk') → Ap L ga → Ap L fi →
      wpAny (model Challenge.rw_tl0059_01.row.prog w) (callerA.deeper (envOfC (Str.ofString "law") (fdS 23) L fa cd)) (execs ((fdB 23).drop 13) (envOfC (Str.ofString "law") (fdS 23) L fa cd)) QK
        (lawE w L fa cd E1) { s with heap := h', toks := tk' }) :
    wpAny (model Challenge.rw_tl0059_01.row.prog w) (callerA.deeper (envOfC (Str.ofString "law") (fdS 23) L fa cd)) (execs ((fdB 23).drop 10) (envOfC (Str.ofString "law") (fdS 23) L fa cd)) QK
        (lawE w L fa cd E1) { s with heap := h, toks := tk } := by
  w_top off
  have nn1 : du ≠ L + 1 + 1 + 1 := Ne.symm a1.2.2.1
  have nn2 : sz ≠ L + 1 + 1 + 1 := Ne.symm a2.2.2.1
  have e1 : L + 1 ≠ L + 1 + 1 + 1 := Nat.ne_of_lt (Nat.lt_succ_of_lt (Nat.lt_succ_self _))
  have e2 : L + 1 + 1 ≠ L + 1 + 1 + 1 := Nat.ne_of_lt (Nat.lt_succ_self _)
  have e4 : L + 1 + 1 + 1 + 1 ≠ L + 1 + 1 + 1 := Nat.succ_ne_self _
  have e5 : L + 1 + 1 + 1 + 1 + 1 ≠ L + 1 + 1 + 1 := Nat.ne_of_gt (Nat.lt_succ_of_lt (Nat.lt_succ_self _))
  have e6 : L + 1 + 1 + 1 + 1 + 1 + 1 ≠ L + 1 + 1 + 1 := Nat.ne_of_gt (Nat.lt_succ_of_lt (Nat.lt_succ_of_lt (Nat.lt_succ_self _)))
  k_steps
  refine Stop.go ?_
  k_dflt (refine' mc_use (mc_gaps du kd _ D hD (fun a ha => Nat.le_trans (by decide) (hb a ha).1) hl) ?k1 ?k2 ?k3 ?k4 ?k5 ?k6 ?k7 ?k8 ?k9 ?_)
  (case k1 => k_asm)
  (case k2 => k_asm)
  (case k3 => k_asm)
  (case k4 => k_asm)
  (case k5 => k_asm)
  (case k6 => first | exact rfl | assumption)
  (case k7 => exact List.forall_mem_cons.mpr ⟨by k_mem, fun _ h => nomatch h⟩)
  (case k8 => first | ktr_room | decide)
  (case k9 => first | ktr_units | decide)
  k_whole
  rintro v own h5 tk5 hle5 ⟨ga, gvs, rfl, rfl, hgv⟩ F5 N5
  simp only [List.cons_append, List.nil_append] at N5
  have off5 : Ap L ga := ⟨ap_cell N5 (.head _) (by k_mem) rfl d1, ap_cell N5 (.head _) (by k_mem) rfl d2, ap_cell N5 (.head _) (by k_mem) rfl d3, ap_cell N5 (.head _) (by k_mem) rfl d4, ap_cell N5 (.head _) (by k_mem) rfl d5, ap_cell N5 (.head _) (by k_mem) rfl d6⟩
  have nn3 : ga ≠ L + 1 + 1 + 1 := Ne.symm off5.2.2.1
  k_steps
  refine Stop.go ?_
  k_dflt (refine' mc_use (mc_figures sz ksz _ D hS hb hl) ?k1 ?k2 ?k3 ?k4 ?k5 ?k6 ?k7 ?k8 ?k9 ?_)
  (case k1 => k_asm)
  (case k2 => k_asm)
  (case k3 => k_asm)
  (case k4 => k_asm)
  (case k5 => k_asm)
  (case k6 => first | exact rfl | assumption)
  (case k7 => exact List.forall_mem_cons.mpr ⟨by k_mem, fun _ h => nomatch h⟩)
  (case k8 => first | ktr_room | decide)
  (case k9 => first | ktr_units | decide)
  k_whole
  rintro v own h6 tk6 hle6 ⟨fi, fvs, rfl, rfl, hfv, hft⟩ F6 N6
  simp only [List.cons_append, List.nil_append] at N6
  have off6 : Ap L fi := ⟨ap_cell N6 (.head _) (by k_mem) rfl d1, ap_cell N6 (.head _) (by k_mem) rfl d2, ap_cell N6 (.head _) (by k_mem) rfl d3, ap_cell N6 (.head _) (by k_mem) rfl d4, ap_cell N6 (.head _) (by k_mem) rfl d5, ap_cell N6 (.head _) (by k_mem) rfl d6⟩
  have nn4 : fi ≠ L + 1 + 1 + 1 := Ne.symm off6.2.2.1
  k_steps
  refine Stop.go ?_
  refine wpAny_execs_cons ?_
  refine wpAny_with_toks (n := tk6) (Nat.le_refl _) ?_
  k_steps
  refine Stop.go ?_
  k_dflt (refine' mc_use (mc_count _ _ _ _ _ hfv ?ka ?kb) ?k1 ?k2 ?k3 ?k4 ?k5 ?k6 ?k7 ?k8 ?k9 ?_)
  case kb => rw [show (figOf D).length = 41 by simp [figOf]]; decide
  case ka =>
    have h0 : 0 < tk6 := by
      obtain ⟨v, hv⟩ : ∃ v, fvs[0]? = some v := ⟨_, List.getElem?_eq_getElem (by rw [hfv.length]; simp [figOf])⟩
      obtain ⟨a, ta, rfl, _⟩ := hfv.at 0 v hv
      exact Nat.lt_of_le_of_lt (Nat.zero_le _) (hft a ta (List.mem_of_getElem? hv)).2
    refine ⟨Nat.ne_of_gt h0, fun i t h => ⟨figOf_bit D i ?_, (hft i t h).1, Nat.ne_of_lt (Nat.lt_of_lt_of_le (hft i t h).2 ?_)⟩⟩
    · obtain ⟨j, hj⟩ := List.getElem?_of_mem h
      obtain ⟨a, ta, e, ha⟩ := hfv.at j _ hj
      cases e
      exact List.mem_of_getElem? ha
    · exact Nat.le_refl _
  (case k1 => k_asm)
  (case k2 => k_asm)
  (case k3 => k_asm)
  (case k4 => k_asm)
  (case k5 => k_asm)
  (case k6 => first | exact rfl | assumption)
  (case k7 => exact List.forall_mem_cons.mpr ⟨by k_mem, fun _ h => nomatch h⟩)
  (case k8 => first | ktr_room | decide)
  (case k9 => first | ktr_units | decide)
  k_whole
  rintro v own h7 tk7 hle7 ⟨rfl, t7, rfl⟩ F7 N7
  simp only [List.nil_append] at N7
  rw [hcount]
  have hgl : (gapsOf D).length ≤ 41 := by
    unfold gapsOf
    exact Nat.le_trans (List.length_filter_le _ _) (by simp)
  generalize gapsOf D = gp at *
  generalize figOf D = fg at *
  k_steps
  · rename (_ ≠ _) => hne
    exact absurd (by rw [List.length_map]) hne
  · refine Stop.go ?_
    rename (tk6 ≤ _) => hle9
    (with_reducible rename Fr _ _ _ _ => F9)
    (with_reducible rename News _ _ _ _ => N9)
    exact next _ _ _ ga fi gvs fvs _ F9 rfl N9 (by assumption) hgv hfv (fun a t h => ⟨(hft a t h).1, Nat.lt_of_lt_of_le (hft a t h).2 hle9⟩) off5 off6
end
end S_LW4
local macro_rules | `(tactic| walk_at "call ref") => `(tactic| (refine Stop.out ?_))
local macro_rules | `(tactic| walk_at "exec For Name Subscript cons nil") => `(tactic| (k_here; (with_reducible rename Fr _ _ _ _ => lF'); (with_unfolding_all refine' For_listK2 lF' ?_); k_whole))
local macro_rules | `(tactic| walk_at "subscriptTail Name Slice ref ref") => `(tactic| (k_here; (with_reducible show wpAny _ _ (subscriptTail _ (PySem.Expr.Slice _ _ (some _) _) _ _) _ _ _); refine Stop.out ?_))
local macro_rules | `(tactic| walk_at "exec Assign cons ListComp") => `(tactic| (k_here; (with_reducible show wpAny _ _ (exec (PySem.Stmt.Assign _ (PySem.Expr.ListComp _ [PySem.Comprehension.mk (PySem.Expr.Name _ _) _ [] _] _ _) _) _) _ _ _); k_dflt (refine Assign_ListComp_tok2 (by k_asm) (by rfl) (by with_unfolding_all rfl) (by with_unfolding_all rfl) (by decide) (by rfl) (by decide) (by rfl) (by rfl) (by rfl) ?_)))
section S_LW5
section
variable {w : World} {base : Heap} {p : Program} {loose : List Str} {mean : ExcName → Option Value} {mg mb : Str → Option Value}
set_option maxHeartbeats 4000000
noncomputable def trB : List Stmt := match ((fdB 23).drop 13).headD (.Pass default) with | .For _ _ b _ _ => b | _ => []
theorem law_5 (g : Heap) (L fa : Addr) (cd : Value) (o1 o2 o3 o4 o5 o6 : Obj) (s : Shared) (QK : Flow → Shared → Prop) (E1 : Value → Shared → Prop)
    (h : Heap) (tk : Nat) (m : Str → Option Value) (du sz ga fi : Addr) (dvs svs gvs fvs : List Value) (kd ksz : Nat) (D : List Nat)
    (w4 w5 w6 : Option Value) (d1 : o1.data = .cell (some (.ref du))) (d2 : o2.data = .cell (some (.ref sz))) (d3 : o3.data = .cell (some (.ref fi))) (d4 : o4.data = .cell w4) (d5 : o5.data = .cell w5) (d6 : o6.data = .cell w6)
    (B : Below callerA base [] g) (X : (KK w.params).In g) (T : Top p loose mean mg mb g)
    (F : Fr g L h m) (hga : m (Str.ofString "gaps") = some (.ref ga)) (N : News g L h ((fi, LCg.lst fvs) :: (ga, LCg.lst gvs) :: (sz, listOf svs.toArray ksz) :: (du, listOf dvs.toArray kd) :: (L + 1 + 1 + 1 + 1 + 1 + 1, o6) :: (L + 1 + 1 + 1 + 1 + 1, o5) :: (L + 1 + 1 + 1 + 1, o4) :: (L + 1 + 1 + 1, o3) :: (L + 1 + 1, o2) :: (L + 1, o1) :: []))
    (hD : IntsAre dvs (D.map fun n : Nat => (n : Int))) (hl : D.length = 3)
    (a1 : Ap L du) (a2 : Ap L sz) (a3 : Ap L ga) (a4 : Ap L fi)
    (turn : ∀ (mm : Nat) (tm : Tok) (h : Heap) (tk' : Nat) (m : Str → Option Value) (q4 q5 q6 : Obj) (z5 z6 : Option Value) (rest : List (Addr × Obj)) (QT : Flow → Shared → Prop),
      mm ∈ D.take 2 → tk ≤ tk' → q4.data = .cell (some (.int (mm : Int) tm)) → q5.data = .cell z5 → q6.data = .cell z6 → Fr g L h m → m (Str.ofString "gaps") = some (.ref ga) → News g L h ((fi, LCg.lst fvs) :: (ga, LCg.lst gvs) :: (sz, listOf svs.toArray ksz) :: (L + 1 + 1 + 1 + 1 + 1 + 1, q6) :: (L + 1 + 1 + 1 + 1 + 1, q5) :: (L + 1 + 1 + 1 + 1, q4) :: (L + 1 + 1 + 1, o3) :: (L + 1 + 1, o2) :: (L + 1, o1) :: rest) → (∀ p ∈ rest, Ap L p.1) →
      (∀ h' tk' m' q5' q6' y5 y6, q5'.data = .cell y5 → q6'.data = .cell y6 → Fr g L h' m' → m' (Str.ofString "gaps") = some (.ref ga) → News g L h' ((fi, LCg.lst fvs) :: (ga, LCg.lst gvs) :: (sz, listOf svs.toArray ksz) :: (L + 1 + 1 + 1 + 1 + 1 + 1, q6') :: (L + 1 + 1 + 1 + 1 + 1, q5') :: (L + 1 + 1 + 1 + 1, q4) :: (L + 1 + 1 + 1, o3) :: (L + 1 + 1, o2) :: (L + 1, o1) :: rest) → QT .next { s with heap := h', toks := tk' }) →
      wpAny (model Challenge.rw_tl0059_01.row.prog w) (callerA.deeper (envOfC (Str.ofString "law") (fdS 23) L fa cd)) (execs (trB.drop 0) (envOfC (Str.ofString "law") (fdS 23) L fa cd)) QT
        (lawE w L fa cd E1) { s with heap := h, toks := tk' })
    (fin : ∀ h' tk' m', Fr g L h' m' → QK (.ret (.bool true)) { s with heap := h', toks := tk' }) :
    wpAny (model Challenge.rw_tl0059_01.row.prog w) (callerA.deeper (envOfC (Str.ofString "law") (fdS 23) L fa cd)) (execs ((fdB 23).drop 13) (envOfC (Str.ofString "law") (fdS 23) L fa cd)) QK
        (lawE w L fa cd E1) { s with heap := h, toks := tk } := by
  w_top off
  have A1 := a1
  have A2 := a2
  have A3 := a3
  have A4 := a4
  unfold Ap at a1 a2 a3 a4
  replace F := fr_pin F (x := Str.ofString "gaps") (by exact hga)
  k_steps
  refine Stop.go (fun hle0 => ?_)
  (with_reducible rename Fr _ _ _ _ => F5)
  (with_reducible rename News _ _ _ _ => N5)
  (with_reducible rename IntsAre _ (List.take _ _) => hW)
  (rename (_ < _ ∧ _) => ltW)
  rename_i wa wvs _ _ _
  refine ⟨wa, wvs, _, _, fun i m nx => m (Str.ofString "gaps") = some (.ref ga) ∧ ∃ q4 q5 q6 z4 z5 z6, q4.data = .cell z4 ∧ q5.data = .cell z5 ∧ q6.data = .cell z6 ∧ nx = (wa, listOf wvs.toArray 0) :: (fi, LCg.lst fvs) :: (ga, LCg.lst gvs) :: (sz, listOf svs.toArray ksz) :: (du, listOf dvs.toArray kd) :: (L + 1 + 1 + 1 + 1 + 1 + 1, q6) :: (L + 1 + 1 + 1 + 1 + 1, q5) :: (L + 1 + 1 + 1 + 1, q4) :: (L + 1 + 1 + 1, o3) :: (L + 1 + 1, o2) :: (L + 1, o1) :: [], rfl, rfl, News.isList N5 (.head _), (N5 _ (.head _)).2.1, F5, N5, ⟨rfl, o4, o5, o6, w4, w5, w6, d4, d5, d6, rfl⟩, ?_, ?_⟩
  · rintro I i v m₁ nx h₁ tk₁ own hle1 hI hv ⟨pga, q4, q5, q6, z4, z5, z6, e4, e5, e6, rfl⟩ hoff hown ⟨oI, hIo⟩ F4 N4
    rw [← List.map_take] at hW
    obtain ⟨mm', tm, rfl, hmm'⟩ := hW.at i v hv
    obtain ⟨mm, hmm, rfl⟩ := nat_at hmm'
    have hca : @LT.lt Nat _ (L + 1 + 1 + 1 + 1 + 1 + 1) I := hI _ (.tail _ (.tail _ (.tail _ (.tail _ (.tail _ (.head _))))))
    have Aw : Ap L wa := ⟨ap_cell N4 (.head _) (by k_mem) rfl d1, ap_cell N4 (.head _) (by k_mem) rfl d2, ap_cell N4 (.head _) (by k_mem) rfl d3, ap_cell N4 (.head _) (by k_mem) rfl e4, ap_cell N4 (.head _) (by k_mem) rfl e5, ap_cell N4 (.head _) (by k_mem) rfl e6⟩
    have hIc : ∀ p ∈ own, Ap L p.1 := fun p hp => by
      rcases hown p hp with e | e
      · rw [e]; exact ap_gt hca
      · rw [e]; exact Aw
    refine wpAny_assign_Name (stCN (own := [(wa, _), (fi, _), (ga, _), (sz, _), (du, _), (L + 1 + 1 + 1 + 1 + 1 + 1, q6), (L + 1 + 1 + 1 + 1 + 1, q5)]) (rest := (L + 1 + 1 + 1, o3) :: (L + 1 + 1, o2) :: (L + 1, o1) :: own) F4 N4 rfl e4 ?_ ?_ (fun h5 q4' F5' N5' e4' => ?_))
    · intro p hp
      rcases List.mem_cons.mp hp with rfl | hp
      · exact Ne.symm Aw.2.2.2.1
      rcases List.mem_cons.mp hp with rfl | hp
      · exact Ne.symm A4.2.2.2.1
      rcases List.mem_cons.mp hp with rfl | hp
      · exact Ne.symm A3.2.2.2.1
      rcases List.mem_cons.mp hp with rfl | hp
      · exact Ne.symm A2.2.2.2.1
      rcases List.mem_cons.mp hp with rfl | hp
      · exact Ne.symm A1.2.2.2.1
      rcases List.mem_cons.mp hp with rfl | hp
      · exact Nat.ne_of_gt (Nat.lt_succ_of_lt (Nat.lt_succ_self _))
      rcases List.mem_cons.mp hp with rfl | hp
      · exact Nat.succ_ne_self _
      exact nomatch hp
    · intro p hp
      rcases List.mem_cons.mp hp with rfl | hp
      · exact Nat.ne_of_lt (Nat.lt_succ_self _)
      rcases List.mem_cons.mp hp with rfl | hp
      · exact Nat.ne_of_lt (Nat.lt_succ_of_lt (Nat.lt_succ_self _))
      rcases List.mem_cons.mp hp with rfl | hp
      · exact Nat.ne_of_lt (Nat.lt_succ_of_lt (Nat.lt_succ_of_lt (Nat.lt_succ_self _)))
      exact Ne.symm (hIc p hp).2.2.2.1
    simp only [List.cons_append, List.nil_append] at N5'
    refine turn mm tm h5 _ m₁ q4' q5 q6 z5 z6 ((wa, listOf wvs.toArray 0) :: (du, listOf dvs.toArray kd) :: own) _ (List.mem_of_getElem? hmm) (Nat.le_trans hle0 hle1) e4' e5 e6 F5' pga (news_sub N5' fun p hp => ?_) ?_ ?_
    · simp only [List.mem_cons] at hp
      rcases hp with rfl | rfl | rfl | rfl | rfl | rfl | rfl | rfl | rfl | rfl | rfl | hp
      all_goals first | k_mem | (repeat (first | exact hp | refine .tail _ ?_))
    · intro p hp
      rcases List.mem_cons.mp hp with rfl | hp
      · exact Aw
      rcases List.mem_cons.mp hp with rfl | hp
      · exact A1
      exact hIc p hp
    · intro h' tk' m' q5' q6' y5 y6 e5' e6' F6 pg6 N6
      refine LEnd.intro (news' := (wa, listOf wvs.toArray 0) :: (fi, LCg.lst fvs) :: (ga, LCg.lst gvs) :: (sz, listOf svs.toArray ksz) :: (du, listOf dvs.toArray kd) :: (L + 1 + 1 + 1 + 1 + 1 + 1, q6') :: (L + 1 + 1 + 1 + 1 + 1, q5') :: (L + 1 + 1 + 1 + 1, q4') :: (L + 1 + 1 + 1, o3) :: (L + 1 + 1, o2) :: (L + 1, o1) :: []) F6 N6 (fun p hp => ?_) (fun p hp => ?_) ⟨pg6, q4', q5', q6', _, _, _, e4', e5', e6', rfl⟩
      · simp only [List.cons_append, List.nil_append, List.mem_cons] at hp
        rcases hp with rfl | rfl | rfl | rfl | rfl | rfl | rfl | rfl | rfl | rfl | rfl | hp
        all_goals first | k_mem | (repeat (first | exact hp | refine .tail _ ?_))
      · have hoff' : ∀ a ∈ ([wa, fi, ga, sz, du, L + 1 + 1 + 1 + 1 + 1 + 1, L + 1 + 1 + 1 + 1 + 1, L + 1 + 1 + 1 + 1, L + 1 + 1 + 1, L + 1 + 1, L + 1] : List Addr), a ∉ [I] := fun a ha => by
          obtain ⟨q, hq, e⟩ := (List.mem_map (f := Prod.fst) (l := (wa, listOf wvs.toArray 0) :: (fi, LCg.lst fvs) :: (ga, LCg.lst gvs) :: (sz, listOf svs.toArray ksz) :: (du, listOf dvs.toArray kd) :: (L + 1 + 1 + 1 + 1 + 1 + 1, q6) :: (L + 1 + 1 + 1 + 1 + 1, q5) :: (L + 1 + 1 + 1 + 1, q4) :: (L + 1 + 1 + 1, o3) :: (L + 1 + 1, o2) :: (L + 1, o1) :: [])).mp ha
          rw [← e]; exact hoff q hq
        exact hoff' p.1 (List.mem_map.mpr ⟨p, hp, rfl⟩)
  · rintro m₁ nx h₁ tk₁ hle1 ⟨pga, q4, q5, q6, z4, z5, z6, e4, e5, e6, rfl⟩ F4 N4
    k_steps
    exact fin _ _ _ (by assumption)
end
end S_LW5
section S_LW6
local macro_rules | `(tactic| walk_at "pad") => `(tactic| skip)
section
variable {w : World} {base : Heap} {p : Program} {loose : List Str} {mean : ExcName → Option Value} {mg mb : Str → Option Value}
set_option maxHeartbeats 4000000
theorem runsP_succ (fg : List Int) (m i : Nat) : runsP fg m (i + 1) = runsP fg m i ++ [i + m * ((pickI fg i m).idxOf 1)] := by
  unfold runsP
  rw [List.range_succ, List.map_append]
  rfl
theorem pickIx_len : ∀ m : Nat, m < 10 → ∀ j : Nat, j < 10 → (pickIx j m 41).length ≤ 41 := by decide +kernel
theorem turn_0 (g : Heap) (L fa : Addr) (cd : Value) (o1 o2 o3 q4 q5 q6 : Obj) (s : Shared) (QT : Flow → Shared → Prop) (E1 : Value → Shared → Prop)
    (h : Heap) (tk : Nat) (m : Str → Option Value) (sz ga fi : Addr) (svs gvs fvs : List Value) (ksz : Nat) (mm : Nat) (tm : Tok) (rest : List (Addr × Obj))
    (B : Below callerA base [] g) (X : (KK w.params).In g) (T : Top p loose mean mg mb g)
    (hg2 : 2 ≤ mm) (hm9 : mm ≤ 9) (hrest : ∀ p ∈ rest, Ap L p.1) (w1 w5 w6 : Option Value)
    (d1 : o1.data = .cell w1) (d2 : o2.data = .cell (some (.ref sz))) (d3 : o3.data = .cell (some (.ref fi))) (e4 : q4.data = .cell (some (.int (mm : Int) tm))) (e5 : q5.data = .cell w5) (e6 : q6.data = .cell w6)
    (F : Fr g L h m) (pga : m (Str.ofString "gaps") = some (.ref ga)) (N : News g L h ((fi, LCg.lst fvs) :: (ga, LCg.lst gvs) :: (sz, listOf svs.toArray ksz) :: (L + 1 + 1 + 1 + 1 + 1 + 1, q6) :: (L + 1 + 1 + 1 + 1 + 1, q5) :: (L + 1 + 1 + 1 + 1, q4) :: (L + 1 + 1 + 1, o3) :: (L + 1 + 1, o2) :: (L + 1, o1) :: rest))
    (fg : List Int) (hf : IntsAre fvs fg) (hfg : fg.length = 41) (hft : ∀ a t, Value.int a t ∈ fvs → (a = 0 ∨ a = 1) ∧ t ≠ 0 ∧ t < tk)
    (h1 : ∀ j, j < mm → 1 ∈ pickI fg j mm)
    (a2 : Ap L sz) (a3 : Ap L ga) (a4 : Ap L fi)
    (next : ∀ h' tk' m' R rvs, Fr g L h' m' → m' (Str.ofString "gaps") = some (.ref ga) → m' (Str.ofString "runs") = some (.ref R) → News g L h' ((R, LCg.lst rvs) :: (fi, LCg.lst fvs) :: (ga, LCg.lst gvs) :: (sz, listOf svs.toArray ksz) :: (L + 1 + 1 + 1 + 1 + 1 + 1, q6) :: (L + 1 + 1 + 1 + 1 + 1, q5) :: (L + 1 + 1 + 1 + 1, q4) :: (L + 1 + 1 + 1, o3) :: (L + 1 + 1, o2) :: (L + 1, o1) :: rest) → IntsAre rvs ((runsP fg mm mm).map fun n : Nat => (n : Int)) → Ap L R →
      wpAny (model Challenge.rw_tl0059_01.row.prog w) (callerA.deeper (envOfC (Str.ofString "law") (fdS 23) L fa cd)) (execs (trB.drop 1) (envOfC (Str.ofString "law") (fdS 23) L fa cd)) QT
        (lawE w L fa cd E1) { s with heap := h', toks := tk' }) :
    wpAny (model Challenge.rw_tl0059_01.row.prog w) (callerA.deeper (envOfC (Str.ofString "law") (fdS 23) L fa cd)) (execs (trB.drop 0) (envOfC (Str.ofString "law") (fdS 23) L fa cd)) QT
        (lawE w L fa cd E1) { s with heap := h, toks := tk } := by
  w_top off
  unfold Ap at a2 a3 a4
  replace F := fr_pin F (x := Str.ofString "gaps") (by exact pga)
  k_steps
  refine Stop.go (fun hle0 => ?_)
  (with_reducible rename IsRange _ _ _ _ _ _ _ _ => hr)
  (with_reducible rename Fr _ _ _ _ => F6)
  (with_reducible rename News _ _ _ _ => N6)
  refine ⟨_, _, _, _, _, _, mm, _, fun i ys nx tk1 => tk ≤ tk1 ∧ nx = (fi, LCg.lst fvs) :: (ga, LCg.lst gvs) :: (sz, listOf svs.toArray ksz) :: (L + 1 + 1 + 1 + 1 + 1 + 1, q6) :: (L + 1 + 1 + 1 + 1 + 1, q5) :: (L + 1 + 1 + 1 + 1, q4) :: (L + 1 + 1 + 1, o3) :: (L + 1 + 1, o2) :: (L + 1, o1) :: rest ∧ IntsAre ys ((runsP fg mm i).map fun n : Nat => (n : Int)), rfl, rfl, F6, N6, hr, ?_, ?_, ?_, ?_, ?_, ?_, ?_⟩
  · exact small_one (by omega) (by omega) (by omega) (by omega)
  · rw [rangeSize_nat]; omega
  · rw [sizeLine_eq]; omega
  · rintro i ys nx t1 t2 hle ⟨l1, e1, i1⟩; exact ⟨Nat.le_trans l1 hle, e1, i1⟩
  · exact ⟨hle0, rfl, .nil⟩
  · rintro j tj ys nx I2 oI2 C2 oC2 D2 m₂ h6 tk6 E6 hj ⟨hle6, rfl, hys⟩ hC hx F7 N7 off7 ne7
    refine wpAny_with_toks (n := tk6) (Nat.le_refl _) ?_
    k_steps
    refine Stop.go ?_
    (with_reducible rename Fr _ _ _ _ => F8)
    (with_reducible rename News _ _ _ _ => N8)
    k_dflt (refine kmk_slice3_lit (its := fvs.toArray) (zs := pickI fvs j mm) F8 N8 (News.isList N8 (by k_mem)) (.int _ _) .none (.int _ _) (fun e => by have := Option.some.inj e; omega) (pick_eq fvs j mm) (fun Ds h8 F9 N9 lt9 => ?_) (by with_unfolding_all rfl) (by intro _; rfl) (by rw [sizeLine_eq, List.size_toArray, hf.length]; omega))
    k_steps
    refine Stop.go ?_
    k_dflt (refine' mc_use (mc_index Ds 0 (pickI fvs j mm) (pickI fg j mm) _ ?ka ?kb ?kc ?kd) ?k1 ?k2 ?k3 ?k4 ?k5 ?k6 ?k7 ?k8 ?k9 ?_)
    case ka => exact (by unfold pickI; rw [hf.length]; exact pick_ints hf _)
    case kb =>
      have h0 : 0 < tk := by
        obtain ⟨v, hv⟩ : ∃ v, fvs[0]? = some v := ⟨_, List.getElem?_eq_getElem (by rw [hf.length]; omega)⟩
        obtain ⟨a, ta, rfl, _⟩ := hf.at 0 v hv
        exact Nat.lt_of_le_of_lt (Nat.zero_le _) (hft a ta (List.mem_of_getElem? hv)).2.2
      refine ⟨Nat.ne_of_gt (Nat.lt_of_lt_of_le h0 hle6), fun i t h => ?_⟩
      have z := hft i t (pick_mem h)
      exact ⟨z.1, z.2.1, Nat.ne_of_lt (Nat.lt_of_lt_of_le z.2.2 hle6)⟩
    case kc =>
      refine Nat.le_trans (List.length_filterMap_le ..) ?_
      rw [hfg]
      exact Nat.le_trans (pickIx_len mm (by omega) j (by omega)) (by decide)
    case kd => exact h1 j hj
    (case k1 => k_asm)
    (case k2 => k_asm)
    (case k3 => k_asm)
    (case k4 => k_asm)
    (case k5 => k_asm)
    (case k6 => first | exact rfl | assumption)
    (case k7 => exact List.forall_mem_cons.mpr ⟨by k_mem, fun _ h => nomatch h⟩)
    (case k8 => first | ktr_room | decide)
    (case k9 => first | ktr_units | decide)
    k_whole
    rintro v own7 h9 tk9 hle9 ⟨rfl, t9, rfl⟩ F10 N10
    simp only [List.nil_append] at N10
    k_steps
    refine KEnd.intro (by assumption) (by assumption) ((fi, LCg.lst fvs) :: (ga, LCg.lst gvs) :: (sz, listOf svs.toArray ksz) :: (L + 1 + 1 + 1 + 1 + 1 + 1, q6) :: (L + 1 + 1 + 1 + 1 + 1, q5) :: (L + 1 + 1 + 1 + 1, q4) :: (L + 1 + 1 + 1, o3) :: (L + 1 + 1, o2) :: (L + 1, o1) :: rest) (fun p hp => .tail _ hp) off7 ⟨Nat.le_trans hle6 (by assumption), rfl, ?_⟩
    · rw [runsP_succ, List.map_append]
      refine intsAre_append hys ?_
      have e : ((0 : Int) + (j : Int) + (mm : Int) * (((pickI fg j mm).idxOf 1 : Nat) : Int)) = ((j + mm * ((pickI fg j mm).idxOf 1) : Nat) : Int) := by
        rw [Int.zero_add]; rfl
      rw [e]
      exact .cons _ _ .nil
  · rintro D ys nx h9 tk9 ⟨hle9, rfl, hys⟩ F9 N9 off9
    exact next _ _ _ D ys F9 (by rfl) (by rfl) N9 hys ⟨ap_cell N9 (.head _) (by k_mem) rfl d1, ap_cell N9 (.head _) (by k_mem) rfl d2, ap_cell N9 (.head _) (by k_mem) rfl d3, ap_cell N9 (.head _) (by k_mem) rfl e4, ap_cell N9 (.head _) (by k_mem) rfl e5, ap_cell N9 (.head _) (by k_mem) rfl e6⟩
end
end S_LW6
section S_LW7
section
variable {w : World} {base : Heap} {p : Program} {loose : List Str} {mean : ExcName → Option Value} {mg mb : Str → Option Value}
set_option maxHeartbeats 4000000
local macro_rules | `(tactic| walk_at "execs cons") => `(tactic| (with_reducible refine stAssign 179 ?_))

local macro_rules | `(tactic| walk_at "execs cons Assign cons") => `(tactic| (with_reducible refine stAssign 179 ?_))

theorem tup_cell {h₀ h : Heap} {L a b : Addr} {its : Array Value} {ob : Obj} {v : Option Value} {l : List (Addr × Obj)} (N : News h₀ L h l) (ha : (a, tupO its) ∈ l) (hb : (b, ob) ∈ l) (db : ob.data = .cell v) : b ≠ a := fun e => by
  have x := (N _ ha).1
  have y := (N _ hb).1
  dsimp only at x y
  rw [← e, y] at x
  rw [Option.some.inj x] at db
  cases db
theorem turn_1 (g : Heap) (L fa : Addr) (cd : Value) (o1 o2 o3 q4 q5 q6 : Obj) (s : Shared) (QT : Flow → Shared → Prop) (E1 : Value → Shared → Prop)
    (h : Heap) (tk : Nat) (m : Str → Option Value) (sz ga fi : Addr) (svs gvs fvs : List Value) (ksz : Nat) (mm : Nat) (tm : Tok) (rest : List (Addr × Obj))
    (B : Below callerA base [] g) (X : (KK w.params).In g) (T : Top p loose mean mg mb g)
    (hg2 : 2 ≤ mm) (hm9 : mm ≤ 9) (hrest : ∀ p ∈ rest, Ap L p.1) (w1 w5 w6 : Option Value)
    (d1 : o1.data = .cell w1) (d2 : o2.data = .cell (some (.ref sz))) (d3 : o3.data = .cell (some (.ref fi))) (e4 : q4.data = .cell (some (.int (mm : Int) tm))) (e5 : q5.data = .cell w5) (e6 : q6.data = .cell w6)
    (R : Addr) (rvs : List Value) (rs gp : List Nat) (top : Nat)
    (F : Fr g L h m) (pga : m (Str.ofString "gaps") = some (.ref ga)) (pru : m (Str.ofString "runs") = some (.ref R)) (N : News g L h ((R, LCg.lst rvs) :: (fi, LCg.lst fvs) :: (ga, LCg.lst gvs) :: (sz, listOf svs.toArray ksz) :: (L + 1 + 1 + 1 + 1 + 1 + 1, q6) :: (L + 1 + 1 + 1 + 1 + 1, q5) :: (L + 1 + 1 + 1 + 1, q4) :: (L + 1 + 1 + 1, o3) :: (L + 1 + 1, o2) :: (L + 1, o1) :: rest))
    (hrv : IntsAre rvs (rs.map fun n : Nat => (n : Int))) (hgv : IntsAre gvs (gp.map fun n : Nat => (n : Int))) (hrl : rs.length = mm) (hrb : ∀ a ∈ rs, a ≤ 39) (hgl : gp.length ≤ 30) (htop : top ∈ rs) (htop2 : ∀ a ∈ rs, a ≤ top)
    (a1 : Ap L R) (a2 : Ap L sz) (a3 : Ap L ga) (a4 : Ap L fi)
    (next : ∀ h' tk' m' q5' t5, Fr g L h' m' → m' (Str.ofString "gaps") = some (.ref ga) → m' (Str.ofString "runs") = some (.ref R) → (∃ tc, m' (Str.ofString "column") = some (.int ((mm * (gp.length + mm + 1) + 1 : Nat) : Int) tc)) → News g L h' ((R, LCg.lst rvs) :: (fi, LCg.lst fvs) :: (ga, LCg.lst gvs) :: (sz, listOf svs.toArray ksz) :: (L + 1 + 1 + 1 + 1 + 1 + 1, q6) :: (L + 1 + 1 + 1 + 1 + 1, q5') :: (L + 1 + 1 + 1 + 1, q4) :: (L + 1 + 1 + 1, o3) :: (L + 1 + 1, o2) :: (L + 1, o1) :: rest) → q5'.data = .cell (some (.int (top : Int) t5)) →
      wpAny (model Challenge.rw_tl0059_01.row.prog w) (callerA.deeper (envOfC (Str.ofString "law") (fdS 23) L fa cd)) (execs (trB.drop 2) (envOfC (Str.ofString "law") (fdS 23) L fa cd)) QT
        (lawE w L fa cd E1) { s with heap := h', toks := tk' }) :
    wpAny (model Challenge.rw_tl0059_01.row.prog w) (callerA.deeper (envOfC (Str.ofString "law") (fdS 23) L fa cd)) (execs (trB.drop 1) (envOfC (Str.ofString "law") (fdS 23) L fa cd)) QT
        (lawE w L fa cd E1) { s with heap := h, toks := tk } := by
  w_top off
  unfold Ap at a1 a2 a3 a4
  replace F := fr_pin F (x := Str.ofString "gaps") (by exact pga)
  replace F := fr_pin F (x := Str.ofString "runs") (by exact pru)
  have hrz : (rs.map fun n : Nat => (n : Int)).length = mm := by rw [List.length_map]; exact hrl
  k_steps
  (with_reducible rename Fr _ _ _ _ => F5)
  (with_reducible rename News _ _ _ _ => N5)
  (rename (_ ∈ List.map _ _) => hM1)
  (rename (∀ a, a ∈ List.map _ _ → _) => hM2)
  obtain ⟨x, hx, ex⟩ := List.mem_map.mp hM1
  have exx : x = top := Nat.le_antisymm (htop2 x hx) (by have := hM2 _ (List.mem_map.mpr ⟨top, htop, rfl⟩); rw [← ex] at this; exact Int.ofNat_le.mp this)
  subst exx
  rw [← ex] at N5
  rw [← ex]
  refine stCN (own := [(_, _), (R, _), (fi, _), (ga, _), (sz, _), (L + 1 + 1 + 1 + 1 + 1 + 1, q6)]) (rest := (L + 1 + 1 + 1 + 1, q4) :: (L + 1 + 1 + 1, o3) :: (L + 1 + 1, o2) :: (L + 1, o1) :: rest) F5 N5 rfl e5 ?_ ?_ (fun h6 q5' F6 N6 e5' => ?_)
  · intro p hp
    rcases List.mem_cons.mp hp with rfl | hp
    · exact Ne.symm (tup_cell N5 (.head _) (by k_mem) e5)
    rcases List.mem_cons.mp hp with rfl | hp
    · exact Ne.symm a1.2.2.2.2.1
    rcases List.mem_cons.mp hp with rfl | hp
    · exact Ne.symm a4.2.2.2.2.1
    rcases List.mem_cons.mp hp with rfl | hp
    · exact Ne.symm a3.2.2.2.2.1
    rcases List.mem_cons.mp hp with rfl | hp
    · exact Ne.symm a2.2.2.2.2.1
    rcases List.mem_cons.mp hp with rfl | hp
    · exact Nat.succ_ne_self _
    exact nomatch hp
  · intro p hp
    rcases List.mem_cons.mp hp with rfl | hp
    · exact Nat.ne_of_lt (Nat.lt_succ_self _)
    rcases List.mem_cons.mp hp with rfl | hp
    · exact Nat.ne_of_lt (Nat.lt_succ_of_lt (Nat.lt_succ_self _))
    rcases List.mem_cons.mp hp with rfl | hp
    · exact Nat.ne_of_lt (Nat.lt_succ_of_lt (Nat.lt_succ_of_lt (Nat.lt_succ_self _)))
    rcases List.mem_cons.mp hp with rfl | hp
    · exact Nat.ne_of_lt (Nat.lt_succ_of_lt (Nat.lt_succ_of_lt (Nat.lt_succ_of_lt (Nat.lt_succ_self _))))
    exact Ne.symm (hrest p hp).2.2.2.2.1
  simp only [List.cons_append, List.nil_append] at N6
  k_steps
  refine Stop.go ?_
  (with_reducible rename Fr _ _ _ _ => F7)
  (with_reducible rename News _ _ _ _ => N7)
  refine next _ _ _ q5' _ F7 rfl rfl ⟨_, congrArg some (congr (congrArg Value.int ?_) rfl)⟩ (news_sub N7 fun p hp => .tail _ hp) e5'
  rw [List.length_map]
  rfl
end
end S_LW7
section S_LW8
local macro_rules | `(tactic| walk_at "pad") => `(tactic| skip)
section
variable {w : World} {base : Heap} {p : Program} {loose : List Str} {mean : ExcName → Option Value} {mg mb : Str → Option Value}
set_option maxHeartbeats 4000000
local macro_rules | `(tactic| walk_at "execs cons") => `(tactic| (with_reducible refine stIf 180 ?_))

local macro_rules | `(tactic| walk_at "execs cons If cons") => `(tactic| (with_reducible refine stIf 180 ?_))

theorem news_mid {h₀ h : Heap} {L : Addr} {x b : Addr × Obj} {a c : List (Addr × Obj)} (N : News h₀ L h (x :: (a ++ (b :: c)))) : News h₀ L h (a ++ c) :=
  news_sub N fun p hp => .tail _ (by
    rcases List.mem_append.mp hp with hp | hp
    · exact List.mem_append_left _ hp
    · exact List.mem_append_right _ (.tail _ hp))
theorem turn_2 (g : Heap) (L fa : Addr) (cd : Value) (o1 o2 o3 q4 q5 q6 : Obj) (s : Shared) (QT : Flow → Shared → Prop) (E1 : Value → Shared → Prop)
    (h : Heap) (tk : Nat) (m : Str → Option Value) (sz ga fi : Addr) (svs gvs fvs : List Value) (ksz : Nat) (mm : Nat) (tm : Tok) (rest : List (Addr × Obj))
    (B : Below callerA base [] g) (X : (KK w.params).In g) (T : Top p loose mean mg mb g)
    (hg2 : 2 ≤ mm) (hm9 : mm ≤ 9) (hrest : ∀ p ∈ rest, Ap L p.1) (w1 w5 w6 : Option Value)
    (d1 : o1.data = .cell w1) (d2 : o2.data = .cell (some (.ref sz))) (d3 : o3.data = .cell (some (.ref fi))) (e4 : q4.data = .cell (some (.int (mm : Int) tm))) (e5 : q5.data = .cell w5) (e6 : q6.data = .cell w6)
    (R : Addr) (rvs : List Value) (rs gp : List Nat) (col : Nat) (tcol : Tok)
    (F : Fr g L h m) (pga : m (Str.ofString "gaps") = some (.ref ga)) (pru : m (Str.ofString "runs") = some (.ref R)) (pco : m (Str.ofString "column") = some (.int (col : Int) tcol)) (N : News g L h ((R, LCg.lst rvs) :: (fi, LCg.lst fvs) :: (ga, LCg.lst gvs) :: (sz, listOf svs.toArray ksz) :: (L + 1 + 1 + 1 + 1 + 1 + 1, q6) :: (L + 1 + 1 + 1 + 1 + 1, q5) :: (L + 1 + 1 + 1 + 1, q4) :: (L + 1 + 1 + 1, o3) :: (L + 1 + 1, o2) :: (L + 1, o1) :: rest))
    (hrv : IntsAre rvs (rs.map fun n : Nat => (n : Int))) (hgv : IntsAre gvs (gp.map fun n : Nat => (n : Int))) (hrl : rs.length = mm) (hrb : ∀ a ∈ rs, a ≤ 39) (hgl : gp.length ≤ 30)
    (a1 : Ap L R) (a2 : Ap L sz) (a3 : Ap L ga) (a4 : Ap L fi)
    (next : ∀ h' tk' m' oL oM xL xM txL txM ownL ownM, WsR w xL txL (wsAt (leadW rs (mm + 1))) oL ownL → WsR w xM txM (wsAt (leadW (rs.map (· + 1)) 1)) oM ownM → Fr g L h' m' → m' (Str.ofString "gaps") = some (.ref ga) → m' (Str.ofString "runs") = some (.ref R) → m' (Str.ofString "column") = some (.int (col : Int) tcol) → m' (Str.ofString "lead") = some (.ref oL) → m' (Str.ofString "moved") = some (.ref oM) → News g L h' (ownM ++ (ownL ++ ((R, LCg.lst rvs) :: (fi, LCg.lst fvs) :: (ga, LCg.lst gvs) :: (sz, listOf svs.toArray ksz) :: (L + 1 + 1 + 1 + 1 + 1 + 1, q6) :: (L + 1 + 1 + 1 + 1 + 1, q5) :: (L + 1 + 1 + 1 + 1, q4) :: (L + 1 + 1 + 1, o3) :: (L + 1 + 1, o2) :: (L + 1, o1) :: rest))) →
      wpAny (model Challenge.rw_tl0059_01.row.prog w) (callerA.deeper (envOfC (Str.ofString "law") (fdS 23) L fa cd)) (execs (trB.drop 3) (envOfC (Str.ofString "law") (fdS 23) L fa cd)) QT
        (lawE w L fa cd E1) { s with heap := h', toks := tk' }) :
    wpAny (model Challenge.rw_tl0059_01.row.prog w) (callerA.deeper (envOfC (Str.ofString "law") (fdS 23) L fa cd)) (execs (trB.drop 2) (envOfC (Str.ofString "law") (fdS 23) L fa cd)) QT
        (lawE w L fa cd E1) { s with heap := h, toks := tk } := by
  w_top off
  unfold Ap at a1 a2 a3 a4
  replace F := fr_pin F (x := Str.ofString "gaps") (by exact pga)
  replace F := fr_pin F (x := Str.ofString "runs") (by exact pru)
  replace F := fr_pin F (x := Str.ofString "column") (by exact pco)
  k_steps
  refine Stop.go ?_
  have em : ((mm : Int) + 1) = ((mm + 1 : Nat) : Int) := rfl
  rw [em]
  k_dflt (refine' mc_use (mc_lead R rvs.length rvs rs (mm + 1) _ hrv (fun a ha => Nat.le_trans (hrb a ha) (by decide)) (by omega) (by omega)) ?k1 ?k2 ?k3 ?k4 ?k5 ?k6 ?k7 ?k8 ?k9 ?_)
  (case k1 => k_asm)
  (case k2 => k_asm)
  (case k3 => k_asm)
  (case k4 => k_asm)
  (case k5 => k_asm)
  (case k6 => first | exact rfl | assumption)
  (case k7 => exact List.forall_mem_cons.mpr ⟨by k_mem, fun _ h => nomatch h⟩)
  (case k8 => first | ktr_room | decide)
  (case k9 => first | ktr_units | decide)
  k_whole
  rintro v own h5 tk5 hle5 ⟨oL, xL, txL, rfl, hL⟩ F5 N5
  have hL' := hL
  obtain ⟨dL, tnL, tcL, lvs, tL1, tL2, uL2, tL3, uL3, tL4, tL5, ubL, sbL, rfl, hlvs⟩ := hL'
  simp only [List.cons_append, List.nil_append] at N5
  k_steps
  refine Stop.go ?_
  (with_reducible rename Fr _ _ _ _ => F7)
  (with_reducible rename News _ _ _ _ => N7)
  refine LCg.CompSrc.ledger rfl F7 N7 (ax := R) (its := rvs.toArray) (k := rvs.length) (by k_mem) (by rw [sizeLine_eq, List.size_toArray, hrv.length, List.length_map]; omega) (fun g5 => ?_)
  refine kcf_list (fun k => k + 1) hrv ?_ ?_
  · intro z tz I7 oI7 C7 oC7 D7 m7 ys7 h7 tk7 E7 hz hC7 hx7 F8 N8 off7 ne7 mk7
    obtain ⟨z, hzn, rfl⟩ := List.mem_map.mp hz
    k_steps
  unfold KPfDone
  intro ys7 hys7 D7 h7 tk7 F8 N8 off7
  clear F7 N7
  k_steps
  refine Stop.go ?_
  have eM : List.map (fun k : Int => k + 1) (rs.map fun n : Nat => (n : Int)) = (rs.map (· + 1)).map fun n : Nat => (n : Int) := by
    rw [List.map_map, List.map_map]; rfl
  k_dflt (refine' mc_use (mc_lead D7 ys7.length ys7 (rs.map (· + 1)) 1 _ (by rw [← eM]; exact hys7) (fun a ha => by obtain ⟨z, hz, rfl⟩ := List.mem_map.mp ha; have := hrb z hz; omega) (by rw [List.length_map]; omega) (by decide)) ?k1 ?k2 ?k3 ?k4 ?k5 ?k6 ?k7 ?k8 ?k9 ?_)
  (case k1 => k_asm)
  (case k2 => k_asm)
  (case k3 => k_asm)
  (case k4 => k_asm)
  (case k5 => k_asm)
  (case k6 => first | exact rfl | assumption)
  (case k7 => exact List.forall_mem_cons.mpr ⟨by k_mem, fun _ h => nomatch h⟩)
  (case k8 => first | ktr_room | decide)
  (case k9 => first | ktr_units | decide)
  k_whole
  rintro v own h9 tk9 hle9 ⟨oM, xM, txM, rfl, hM⟩ F9 N9
  have hM' := hM
  obtain ⟨dM, tnM, tcM, mvs, tM1, tM2, uM2, tM3, uM3, tM4, tM5, ubM, sbM, rfl, hmvs⟩ := hM'
  simp only [List.cons_append, List.nil_append] at N9
  clear F8 N8 F N
  k_steps
  refine Stop.go ?_
  (with_reducible rename Fr _ _ _ _ => F10)
  (with_reducible rename News _ _ _ _ => N10)
  exact next _ _ _ oL oM xL xM txL txM _ _ hL hM F10 rfl rfl rfl rfl rfl (news_mid (a := [_, _, _, _]) N10)
end
end S_LW8
section S_LW9
section
variable {w : World} {base : Heap} {p : Program} {loose : List Str} {mean : ExcName → Option Value} {mg mb : Str → Option Value}
set_option maxHeartbeats 4000000
local macro_rules | `(tactic| walk_at "execs cons") => `(tactic| (with_reducible refine stAssign 182 ?_))

local macro_rules | `(tactic| walk_at "execs cons Assign cons") => `(tactic| (with_reducible refine stAssign 182 ?_))

theorem news_cons {h₀ h : Heap} {L : Addr} {l : List (Addr × Obj)} {p : Addr × Obj} (N : News h₀ L h l) (m : p ∈ l) : News h₀ L h (p :: l) := news_sub N fun q hq => by
  rcases List.mem_cons.mp hq with rfl | hq
  · exact m
  · exact hq
theorem news_app {h₀ h : Heap} {L : Addr} {a l : List (Addr × Obj)} (N : News h₀ L h l) (m : ∀ p ∈ a, p ∈ l) : News h₀ L h (a ++ l) := news_sub N fun q hq => (List.mem_append.mp hq).elim (m q) id
theorem last_eq (gp : List Nat) (h : 0 < gp.length) : (gp.map fun n : Nat => (n : Int)).getD (-1 + ((gp.map fun n : Nat => (n : Int)).length : Int)).toNat 0 = ((gp.getD (gp.length - 1) 0 : Nat) : Int) := by
  rw [List.length_map, show (-1 + (gp.length : Int)).toNat = gp.length - 1 by omega, getD_map0]
theorem turn_3 (g : Heap) (L fa : Addr) (cd : Value) (o1 o2 o3 q4 q5 q6 : Obj) (s : Shared) (QT : Flow → Shared → Prop) (E1 : Value → Shared → Prop)
    (h : Heap) (tk : Nat) (m : Str → Option Value) (sz ga fi : Addr) (svs gvs fvs : List Value) (ksz : Nat) (mm : Nat) (tm : Tok) (rest : List (Addr × Obj))
    (B : Below callerA base [] g) (X : (KK w.params).In g) (T : Top p loose mean mg mb g)
    (hg2 : 2 ≤ mm) (hm9 : mm ≤ 9) (hrest : ∀ p ∈ rest, Ap L p.1) (w1 w5 w6 : Option Value)
    (d1 : o1.data = .cell w1) (d2 : o2.data = .cell (some (.ref sz))) (d3 : o3.data = .cell (some (.ref fi))) (e4 : q4.data = .cell (some (.int (mm : Int) tm))) (e5 : q5.data = .cell w5) (e6 : q6.data = .cell w6)
    (R oL oM : Addr) (rvs : List Value) (gp : List Nat) (col : Nat) (tcol : Tok) (xL xM : Str) (txL txM : Tok) (σL σM : Nat × Nat × Nat × List Nat) (ownL ownM : List (Addr × Obj))
    (F : Fr g L h m) (pga : m (Str.ofString "gaps") = some (.ref ga)) (pru : m (Str.ofString "runs") = some (.ref R)) (pco : m (Str.ofString "column") = some (.int (col : Int) tcol)) (pLe : m (Str.ofString "lead") = some (.ref oL)) (pMo : m (Str.ofString "moved") = some (.ref oM)) (N : News g L h (ownM ++ (ownL ++ ((R, LCg.lst rvs) :: (fi, LCg.lst fvs) :: (ga, LCg.lst gvs) :: (sz, listOf svs.toArray ksz) :: (L + 1 + 1 + 1 + 1 + 1 + 1, q6) :: (L + 1 + 1 + 1 + 1 + 1, q5) :: (L + 1 + 1 + 1 + 1, q4) :: (L + 1 + 1 + 1, o3) :: (L + 1 + 1, o2) :: (L + 1, o1) :: rest))))
    (hL : WsR w xL txL σL oL ownL) (hM : WsR w xM txM σM oM ownM) (lL : σL.2.2.2.length ≤ 1000) (lM : σM.2.2.2.length ≤ 1000) (cL : ∀ c ∈ σL.2.2.2, c ≤ 1000) (cM : ∀ c ∈ σM.2.2.2, c ≤ 1000)
    (hgv : IntsAre gvs (gp.map fun n : Nat => (n : Int))) (hgl : gp.length ≤ 30) (hg0 : 0 < gp.length)
    (h1 : max ((σL.2.2.2.length : Int) - 1) (σL.2.2.1 : Int) - (mm : Int) = ((gp.getD (gp.length - 1) 0 : Nat) : Int)) (h2 : σL.2.2.1 + mm * (ilSum mm σL.2.2.2 (σL.2.2.2.length - mm) + σL.2.1) = col) (h3 : σM.2.2.1 + mm * (ilSum mm σM.2.2.2 (σM.2.2.2.length - mm) + σM.2.1) = col)
    (a1 : Ap L R) (a2 : Ap L sz) (a3 : Ap L ga) (a4 : Ap L fi)
    (next : ∀ h' tk' m', Fr g L h' m' → m' (Str.ofString "gaps") = some (.ref ga) → m' (Str.ofString "runs") = some (.ref R) → m' (Str.ofString "column") = some (.int (col : Int) tcol) → m' (Str.ofString "lead") = some (.ref oL) → m' (Str.ofString "moved") = some (.ref oM) → News g L h' (ownM ++ (ownL ++ ((R, LCg.lst rvs) :: (fi, LCg.lst fvs) :: (ga, LCg.lst gvs) :: (sz, listOf svs.toArray ksz) :: (L + 1 + 1 + 1 + 1 + 1 + 1, q6) :: (L + 1 + 1 + 1 + 1 + 1, q5) :: (L + 1 + 1 + 1 + 1, q4) :: (L + 1 + 1 + 1, o3) :: (L + 1 + 1, o2) :: (L + 1, o1) :: rest))) →
      wpAny (model Challenge.rw_tl0059_01.row.prog w) (callerA.deeper (envOfC (Str.ofString "law") (fdS 23) L fa cd)) (execs (trB.drop 4) (envOfC (Str.ofString "law") (fdS 23) L fa cd)) QT
        (lawE w L fa cd E1) { s with heap := h', toks := tk' }) :
    wpAny (model Challenge.rw_tl0059_01.row.prog w) (callerA.deeper (envOfC (Str.ofString "law") (fdS 23) L fa cd)) (execs (trB.drop 3) (envOfC (Str.ofString "law") (fdS 23) L fa cd)) QT
        (lawE w L fa cd E1) { s with heap := h, toks := tk } := by
  w_top off
  have mm0 : (ga, LCg.lst gvs) ∈ (ownM ++ (ownL ++ ((R, LCg.lst rvs) :: (fi, LCg.lst fvs) :: (ga, LCg.lst gvs) :: (sz, listOf svs.toArray ksz) :: (L + 1 + 1 + 1 + 1 + 1 + 1, q6) :: (L + 1 + 1 + 1 + 1 + 1, q5) :: (L + 1 + 1 + 1 + 1, q4) :: (L + 1 + 1 + 1, o3) :: (L + 1 + 1, o2) :: (L + 1, o1) :: rest))) := (List.mem_append_right _ (List.mem_append_right _ (by k_mem)))
  have mm1 : (L + 1 + 1 + 1 + 1, q4) ∈ (ownM ++ (ownL ++ ((R, LCg.lst rvs) :: (fi, LCg.lst fvs) :: (ga, LCg.lst gvs) :: (sz, listOf svs.toArray ksz) :: (L + 1 + 1 + 1 + 1 + 1 + 1, q6) :: (L + 1 + 1 + 1 + 1 + 1, q5) :: (L + 1 + 1 + 1 + 1, q4) :: (L + 1 + 1 + 1, o3) :: (L + 1 + 1, o2) :: (L + 1, o1) :: rest))) := (List.mem_append_right _ (List.mem_append_right _ (by k_mem)))
  have kk0 : ∀ p ∈ ownM, p ∈ (ownM ++ (ownL ++ ((R, LCg.lst rvs) :: (fi, LCg.lst fvs) :: (ga, LCg.lst gvs) :: (sz, listOf svs.toArray ksz) :: (L + 1 + 1 + 1 + 1 + 1 + 1, q6) :: (L + 1 + 1 + 1 + 1 + 1, q5) :: (L + 1 + 1 + 1 + 1, q4) :: (L + 1 + 1 + 1, o3) :: (L + 1 + 1, o2) :: (L + 1, o1) :: rest))) := fun p hp => List.mem_append_left _ hp
  have kk1 : ∀ p ∈ ownL, p ∈ (ownM ++ (ownL ++ ((R, LCg.lst rvs) :: (fi, LCg.lst fvs) :: (ga, LCg.lst gvs) :: (sz, listOf svs.toArray ksz) :: (L + 1 + 1 + 1 + 1 + 1 + 1, q6) :: (L + 1 + 1 + 1 + 1 + 1, q5) :: (L + 1 + 1 + 1 + 1, q4) :: (L + 1 + 1 + 1, o3) :: (L + 1 + 1, o2) :: (L + 1, o1) :: rest))) := fun p hp => List.mem_append_right _ (List.mem_append_left _ hp)
  generalize (ownM ++ (ownL ++ ((R, LCg.lst rvs) :: (fi, LCg.lst fvs) :: (ga, LCg.lst gvs) :: (sz, listOf svs.toArray ksz) :: (L + 1 + 1 + 1 + 1 + 1 + 1, q6) :: (L + 1 + 1 + 1 + 1 + 1, q5) :: (L + 1 + 1 + 1 + 1, q4) :: (L + 1 + 1 + 1, o3) :: (L + 1 + 1, o2) :: (L + 1, o1) :: rest))) = full at N next mm0 mm1 kk0 kk1
  replace N := news_cons N mm1
  replace N := news_cons N (.tail _ mm0)
  replace N := news_app N (fun p hp => .tail _ (.tail _ (kk1 p hp)))
  replace N := news_app N (fun p hp => List.mem_append_right _ (.tail _ (.tail _ (kk0 p hp))))
  clear mm0 mm1 kk0 kk1
  replace F := fr_pin F (x := Str.ofString "gaps") (by exact pga)
  replace F := fr_pin F (x := Str.ofString "column") (by exact pco)
  replace F := fr_pin F (x := Str.ofString "lead") (by exact pLe)
  replace F := fr_pin F (x := Str.ofString "moved") (by exact pMo)
  obtain ⟨dL, tnL, tcL, lvs, tL1, tL2, uL2, tL3, uL3, tL4, tL5, ubL, sbL, rfl, hlvs⟩ := id hL
  obtain ⟨dM, tnM, tcM, mvs, tM1, tM2, uM2, tM3, uM3, tM4, tM5, ubM, sbM, rfl, hmvs⟩ := id hM
  simp only [List.cons_append, List.nil_append] at N
  k_steps
  refine Stop.go ?_
  k_dflt (refine' mc_use (mc_longest xL txL σL oL _ hL lL) ?k1 ?k2 ?k3 ?k4 ?k5 ?k6 ?k7 ?k8 ?k9 ?_)
  (case k1 => k_asm)
  (case k2 => k_asm)
  (case k3 => k_asm)
  (case k4 => k_asm)
  (case k5 => k_asm)
  (case k6 => first | exact rfl | assumption)
  (case k7 => exact List.forall_mem_cons.mpr ⟨by k_mem, List.forall_mem_cons.mpr ⟨by k_mem, List.forall_mem_cons.mpr ⟨by k_mem, List.forall_mem_cons.mpr ⟨by k_mem, fun _ h => nomatch h⟩⟩⟩⟩)
  (case k8 => first | ktr_room | decide)
  (case k9 => first | ktr_units | decide)
  k_whole
  rintro v own h5 tk5 hle5 ⟨rfl, t5, rfl⟩ F5 N5
  simp only [List.nil_append] at N5
  k_steps
  refine Stop.go ?_
  rw [h1]
  k_dflt (refine' mc_use (mc_indent xL txL σL oL _ mm _ hL lL cL (by omega) (by omega)) ?k1 ?k2 ?k3 ?k4 ?k5 ?k6 ?k7 ?k8 ?k9 ?_)
  (case k1 => k_asm)
  (case k2 => k_asm)
  (case k3 => k_asm)
  (case k4 => k_asm)
  (case k5 => k_asm)
  (case k6 => first | exact rfl | assumption)
  (case k7 => exact List.forall_mem_cons.mpr ⟨by k_mem, List.forall_mem_cons.mpr ⟨by k_mem, List.forall_mem_cons.mpr ⟨by k_mem, List.forall_mem_cons.mpr ⟨by k_mem, fun _ h => nomatch h⟩⟩⟩⟩)
  (case k8 => first | ktr_room | decide)
  (case k9 => first | ktr_units | decide)
  k_whole
  rintro v own h6 tk6 hle6 ⟨rfl, t6, rfl⟩ F6 N6
  simp only [List.nil_append] at N6
  rw [h2]
  k_steps
  refine Stop.go ?_
  k_dflt (refine' mc_use (mc_indent xM txM σM oM _ mm _ hM lM cM (by omega) (by omega)) ?k1 ?k2 ?k3 ?k4 ?k5 ?k6 ?k7 ?k8 ?k9 ?_)
  (case k1 => k_asm)
  (case k2 => k_asm)
  (case k3 => k_asm)
  (case k4 => k_asm)
  (case k5 => k_asm)
  (case k6 => first | exact rfl | assumption)
  (case k7 => exact List.forall_mem_cons.mpr ⟨by k_mem, List.forall_mem_cons.mpr ⟨by k_mem, List.forall_mem_cons.mpr ⟨by k_mem, List.forall_mem_cons.mpr ⟨by k_mem, fun _ h => nomatch h⟩⟩⟩⟩)
  (case k8 => first | ktr_room | decide)
  (case k9 => first | ktr_units | decide)
  k_whole
  rintro v own h7 tk7 hle7 ⟨rfl, t7, rfl⟩ F7 N7
  simp only [List.nil_append] at N7
  rw [h3]
  clear F6 N6 F5 N5 F N
  k_steps
  · refine Stop.go ?_
    (with_reducible rename Fr _ _ _ _ => F9)
    (with_reducible rename News _ _ _ _ => N9)
    exact next _ _ _ F9 (by first | rfl | assumption) (by first | rfl | assumption) (by first | rfl | assumption) (by first | rfl | assumption) (by first | rfl | assumption) (news_sub N9 fun p hp => by repeat (first | exact hp | refine .tail _ ?_))
  · rename (¬ _ = _) => hne
    exact absurd (by rw [last_eq gp hg0]) hne
end
end S_LW9
section S_LW10
local macro_rules | `(tactic| walk_at "pad") => `(tactic| skip)
section
variable {w : World} {base : Heap} {p : Program} {loose : List Str} {mean : ExcName → Option Value} {mg mb : Str → Option Value}
set_option maxHeartbeats 4000000
local macro_rules | `(tactic| walk_at "execs cons") => `(tactic| (with_reducible refine stAssign 185 ?_))

local macro_rules | `(tactic| walk_at "execs cons Assign cons") => `(tactic| (with_reducible refine stAssign 185 ?_))

theorem turn_4 (g : Heap) (L fa : Addr) (cd : Value) (o1 o2 o3 q4 q5 q6 : Obj) (s : Shared) (QT : Flow → Shared → Prop) (E1 : Value → Shared → Prop)
    (h : Heap) (tk : Nat) (m : Str → Option Value) (sz ga fi : Addr) (svs gvs fvs : List Value) (ksz : Nat) (mm : Nat) (tm : Tok) (rest : List (Addr × Obj))
    (B : Below callerA base [] g) (X : (KK w.params).In g) (T : Top p loose mean mg mb g)
    (hg2 : 2 ≤ mm) (hm9 : mm ≤ 9) (hrest : ∀ p ∈ rest, Ap L p.1) (w1 w5 w6 : Option Value)
    (d1 : o1.data = .cell w1) (d2 : o2.data = .cell (some (.ref sz))) (d3 : o3.data = .cell (some (.ref fi))) (e4 : q4.data = .cell (some (.int (mm : Int) tm))) (e5 : q5.data = .cell w5) (e6 : q6.data = .cell w6)
    (R oL oM : Addr) (rvs : List Value) (rs gp : List Nat) (col : Nat) (tcol : Tok)
    (F : Fr g L h m) (pga : m (Str.ofString "gaps") = some (.ref ga)) (pru : m (Str.ofString "runs") = some (.ref R)) (pco : m (Str.ofString "column") = some (.int (col : Int) tcol)) (pLe : m (Str.ofString "lead") = some (.ref oL)) (pMo : m (Str.ofString "moved") = some (.ref oM)) (N : News g L h ((R, LCg.lst rvs) :: (fi, LCg.lst fvs) :: (ga, LCg.lst gvs) :: (sz, listOf svs.toArray ksz) :: (L + 1 + 1 + 1 + 1 + 1 + 1, q6) :: (L + 1 + 1 + 1 + 1 + 1, q5) :: (L + 1 + 1 + 1 + 1, q4) :: (L + 1 + 1 + 1, o3) :: (L + 1 + 1, o2) :: (L + 1, o1) :: rest))
    (hrv : IntsAre rvs (rs.map fun n : Nat => (n : Int))) (hgv : IntsAre gvs (gp.map fun n : Nat => (n : Int))) (hrl : rs.length = mm) (hrb : ∀ a ∈ rs, a ≤ 39) (hgl : gp.length ≤ 30)
    (σS : Nat × Nat × Nat × List Nat) (hσ : wsAt (leadW (rs.map (· / mm)) (gp.length + 1)) = σS) (lS : σS.2.2.2.length ≤ 1000) (cS : ∀ c ∈ σS.2.2.2, c ≤ 1000)
    (h1 : max ((σS.2.2.2.length : Int) - 1) (σS.2.2.1 : Int) = (gp.length : Int) + 1) (h2 : σS.2.2.1 + 1 * (ilSum 1 σS.2.2.2 (σS.2.2.2.length - 1) + σS.2.1) = 2 * gp.length + mm + 1)
    (a1 : Ap L R) (a2 : Ap L sz) (a3 : Ap L ga) (a4 : Ap L fi)
    (next : ∀ h' tk' m', Fr g L h' m' → m' (Str.ofString "gaps") = some (.ref ga) → m' (Str.ofString "runs") = some (.ref R) → m' (Str.ofString "column") = some (.int (col : Int) tcol) → m' (Str.ofString "lead") = some (.ref oL) → m' (Str.ofString "moved") = some (.ref oM) → News g L h' ((R, LCg.lst rvs) :: (fi, LCg.lst fvs) :: (ga, LCg.lst gvs) :: (sz, listOf svs.toArray ksz) :: (L + 1 + 1 + 1 + 1 + 1 + 1, q6) :: (L + 1 + 1 + 1 + 1 + 1, q5) :: (L + 1 + 1 + 1 + 1, q4) :: (L + 1 + 1 + 1, o3) :: (L + 1 + 1, o2) :: (L + 1, o1) :: rest) →
      wpAny (model Challenge.rw_tl0059_01.row.prog w) (callerA.deeper (envOfC (Str.ofString "law") (fdS 23) L fa cd)) (execs (trB.drop 6) (envOfC (Str.ofString "law") (fdS 23) L fa cd)) QT
        (lawE w L fa cd E1) { s with heap := h', toks := tk' }) :
    wpAny (model Challenge.rw_tl0059_01.row.prog w) (callerA.deeper (envOfC (Str.ofString "law") (fdS 23) L fa cd)) (execs (trB.drop 4) (envOfC (Str.ofString "law") (fdS 23) L fa cd)) QT
        (lawE w L fa cd E1) { s with heap := h, toks := tk } := by
  w_top off
  have mm0 : (R, LCg.lst rvs) ∈ ((R, LCg.lst rvs) :: (fi, LCg.lst fvs) :: (ga, LCg.lst gvs) :: (sz, listOf svs.toArray ksz) :: (L + 1 + 1 + 1 + 1 + 1 + 1, q6) :: (L + 1 + 1 + 1 + 1 + 1, q5) :: (L + 1 + 1 + 1 + 1, q4) :: (L + 1 + 1 + 1, o3) :: (L + 1 + 1, o2) :: (L + 1, o1) :: rest) := (by k_mem)
  have mm1 : (ga, LCg.lst gvs) ∈ ((R, LCg.lst rvs) :: (fi, LCg.lst fvs) :: (ga, LCg.lst gvs) :: (sz, listOf svs.toArray ksz) :: (L + 1 + 1 + 1 + 1 + 1 + 1, q6) :: (L + 1 + 1 + 1 + 1 + 1, q5) :: (L + 1 + 1 + 1 + 1, q4) :: (L + 1 + 1 + 1, o3) :: (L + 1 + 1, o2) :: (L + 1, o1) :: rest) := (by k_mem)
  have mm2 : (L + 1 + 1 + 1 + 1, q4) ∈ ((R, LCg.lst rvs) :: (fi, LCg.lst fvs) :: (ga, LCg.lst gvs) :: (sz, listOf svs.toArray ksz) :: (L + 1 + 1 + 1 + 1 + 1 + 1, q6) :: (L + 1 + 1 + 1 + 1 + 1, q5) :: (L + 1 + 1 + 1 + 1, q4) :: (L + 1 + 1 + 1, o3) :: (L + 1 + 1, o2) :: (L + 1, o1) :: rest) := (by k_mem)
  generalize ((R, LCg.lst rvs) :: (fi, LCg.lst fvs) :: (ga, LCg.lst gvs) :: (sz, listOf svs.toArray ksz) :: (L + 1 + 1 + 1 + 1 + 1 + 1, q6) :: (L + 1 + 1 + 1 + 1 + 1, q5) :: (L + 1 + 1 + 1 + 1, q4) :: (L + 1 + 1 + 1, o3) :: (L + 1 + 1, o2) :: (L + 1, o1) :: rest) = full at N next mm0 mm1 mm2
  replace N := news_cons N mm2
  replace N := news_cons N (.tail _ mm1)
  replace N := news_cons N (.tail _ (.tail _ mm0))
  clear mm0 mm1 mm2
  replace F := fr_pin F (x := Str.ofString "gaps") (by exact pga)
  replace F := fr_pin F (x := Str.ofString "runs") (by exact pru)
  k_steps
  refine Stop.go ?_
  (with_reducible rename Fr _ _ _ _ => F7)
  (with_reducible rename News _ _ _ _ => N7)
  refine LCg.CompSrc.ledger rfl F7 N7 (ax := R) (its := rvs.toArray) (k := rvs.length) (by k_mem) (by rw [sizeLine_eq, List.size_toArray, hrv.length, List.length_map]; omega) (fun g5 => ?_)
  refine kcf_list (fun k => k.fdiv (mm : Int)) hrv ?_ ?_
  · intro z tz I7 oI7 C7 oC7 D7 m7 ys7 h7 tk7 E7 hz hC7 hx7 F8 N8 off7 ne7 mk7
    obtain ⟨z, hzn, rfl⟩ := List.mem_map.mp hz
    k_steps
  unfold KPfDone
  intro ys7 hys7 D7 h7 tk7 F8 N8 off7
  clear F7 N7
  k_steps
  refine Stop.go ?_
  have eM : List.map (fun k : Int => k.fdiv (mm : Int)) (rs.map fun n : Nat => (n : Int)) = (rs.map (· / mm)).map fun n : Nat => (n : Int) := by
    rw [List.map_map, List.map_map]
    refine List.map_congr_left fun a _ => ?_
    show (a : Int).fdiv (mm : Int) = _
    rw [Int.fdiv_eq_ediv_of_nonneg _ (by omega)]; rfl
  have eg : ((gp.map fun n : Nat => (n : Int)).length : Int) + 1 = ((gp.length + 1 : Nat) : Int) := by rw [List.length_map]; rfl
  rw [eg]
  k_dflt (refine' mc_use (mc_lead D7 ys7.length ys7 (rs.map (· / mm)) (gp.length + 1) _ (by rw [← eM]; exact hys7) (fun a ha => by obtain ⟨z, hz, rfl⟩ := List.mem_map.mp ha; have := hrb z hz; exact Nat.le_trans (Nat.div_le_self ..) (by omega)) (by rw [List.length_map]; omega) (by omega)) ?k1 ?k2 ?k3 ?k4 ?k5 ?k6 ?k7 ?k8 ?k9 ?_)
  (case k1 => k_asm)
  (case k2 => k_asm)
  (case k3 => k_asm)
  (case k4 => k_asm)
  (case k5 => k_asm)
  (case k6 => first | exact rfl | assumption)
  (case k7 => exact List.forall_mem_cons.mpr ⟨by k_mem, fun _ h => nomatch h⟩)
  (case k8 => first | ktr_room | decide)
  (case k9 => first | ktr_units | decide)
  k_whole
  rintro v own h9 tk9 hle9 ⟨oS, xS, txS, rfl, hS⟩ F9 N9
  rw [hσ] at hS
  obtain ⟨dS, tnS, tcS, Svs, tS1, tS2, uS2, tS3, uS3, tS4, tS5, ubS, sbS, rfl, hSvs⟩ := id hS
  simp only [List.cons_append, List.nil_append] at N9
  clear F8 N8
  k_steps
  refine Stop.go ?_
  k_dflt (refine' mc_use (mc_longest xS txS σS oS _ hS lS) ?k1 ?k2 ?k3 ?k4 ?k5 ?k6 ?k7 ?k8 ?k9 ?_)
  (case k1 => k_asm)
  (case k2 => k_asm)
  (case k3 => k_asm)
  (case k4 => k_asm)
  (case k5 => k_asm)
  (case k6 => first | exact rfl | assumption)
  (case k7 => exact List.forall_mem_cons.mpr ⟨by k_mem, List.forall_mem_cons.mpr ⟨by k_mem, List.forall_mem_cons.mpr ⟨by k_mem, List.forall_mem_cons.mpr ⟨by k_mem, fun _ h => nomatch h⟩⟩⟩⟩)
  (case k8 => first | ktr_room | decide)
  (case k9 => first | ktr_units | decide)
  k_whole
  rintro v own h5 tk5 hle5 ⟨rfl, t5, rfl⟩ F5 N5
  simp only [List.nil_append] at N5
  rw [h1]
  k_steps
  refine Stop.go ?_
  k_dflt (refine' mc_use (mc_indent xS txS σS oS _ 1 _ hS lS cS (by decide) (by decide)) ?k1 ?k2 ?k3 ?k4 ?k5 ?k6 ?k7 ?k8 ?k9 ?_)
  (case k1 => k_asm)
  (case k2 => k_asm)
  (case k3 => k_asm)
  (case k4 => k_asm)
  (case k5 => k_asm)
  (case k6 => first | exact rfl | assumption)
  (case k7 => exact List.forall_mem_cons.mpr ⟨by k_mem, List.forall_mem_cons.mpr ⟨by k_mem, List.forall_mem_cons.mpr ⟨by k_mem, List.forall_mem_cons.mpr ⟨by k_mem, fun _ h => nomatch h⟩⟩⟩⟩)
  (case k8 => first | ktr_room | decide)
  (case k9 => first | ktr_units | decide)
  k_whole
  rintro v own h6 tk6 hle6 ⟨rfl, t6, rfl⟩ F6 N6
  simp only [List.nil_append] at N6
  rw [h2]
  clear F5 N5
  k_steps
  · refine Stop.go ?_
    (with_reducible rename Fr _ _ _ _ => F9)
    (with_reducible rename News _ _ _ _ => N9)
    exact next _ _ _ F9 (by first | rfl | assumption) (by first | rfl | assumption) (by first | rfl | assumption) (by first | rfl | assumption) (by first | rfl | assumption) (news_sub N9 fun p hp => by repeat (first | exact hp | refine .tail _ ?_))
  · rename (¬ _ = _) => hne
    exact absurd (by rw [List.length_map]; rfl) hne
end
end S_LW10
local macro_rules | `(tactic| walk_at "exec Assign cons ListComp") => `(tactic| (k_here; (with_reducible show wpAny _ _ (exec (PySem.Stmt.Assign _ (PySem.Expr.ListComp _ [PySem.Comprehension.mk (PySem.Expr.Tuple _ _ _) _ _ _] _ _) _) _) _ _ _); refine wpAny_Assign_Name ?_ (by with_unfolding_all rfl)))
local macro_rules | `(tactic| walk_at "eval ListComp") => `(tactic| (k_here; (with_reducible show wpAny _ _ (eval (PySem.Expr.ListComp _ [PySem.Comprehension.mk (PySem.Expr.Tuple _ _ _) _ _ _] _ _) _) _ _ _); k_dflt (refine ListComp_enum (by k_asm) (by with_unfolding_all rfl) (by decide) (by rfl) (by decide) (by rfl) (by rfl) (by decide) ?_)))
local macro_rules | `(tactic| walk_at "EnumSrc") => `(tactic| (refine Stop.out ?_))
local macro_rules | `(tactic| walk_at "call type:enumerate") => `(tactic| (refine Stop.out ?_))
section S_LW11
section
variable {w : World} {base : Heap} {p : Program} {loose : List Str} {mean : ExcName → Option Value} {mg mb : Str → Option Value}
set_option maxHeartbeats 4000000
local macro_rules | `(tactic| walk_at "execs cons") => `(tactic| (with_reducible refine stAssign 189 ?_))

local macro_rules | `(tactic| walk_at "execs cons Assign cons") => `(tactic| (with_reducible refine stAssign 189 ?_))

theorem newsTup {h₀ h : Heap} {L t : Addr} {a : Array Value} {news : List (Addr × Obj)} (N : News h₀ L h news) (hm : (t, tupO a) ∈ news) : IsTup h t a := ⟨_, (N _ hm).1, rfl, _, rfl⟩
theorem turn_5 (g : Heap) (L fa : Addr) (cd : Value) (o1 o2 o3 q4 q5 q6 : Obj) (s : Shared) (QT : Flow → Shared → Prop) (E1 : Value → Shared → Prop)
    (h : Heap) (tk : Nat) (m : Str → Option Value) (sz ga fi : Addr) (svs gvs fvs : List Value) (ksz : Nat) (mm : Nat) (tm : Tok) (rest : List (Addr × Obj))
    (B : Below callerA base [] g) (X : (KK w.params).In g) (T : Top p loose mean mg mb g)
    (hg2 : 2 ≤ mm) (hm9 : mm ≤ 9) (hrest : ∀ p ∈ rest, Ap L p.1) (w1 w5 w6 : Option Value)
    (d1 : o1.data = .cell w1) (d2 : o2.data = .cell (some (.ref sz))) (d3 : o3.data = .cell (some (.ref fi))) (e4 : q4.data = .cell (some (.int (mm : Int) tm))) (e5 : q5.data = .cell w5) (e6 : q6.data = .cell w6)
    (R oL oM : Addr) (rvs : List Value) (rs gp : List Nat) (col : Nat) (tcol : Tok) (xL : Str) (txL : Tok) (σL : Nat × Nat × Nat × List Nat) (ownL : List (Addr × Obj))
    (F : Fr g L h m) (pga : m (Str.ofString "gaps") = some (.ref ga)) (pru : m (Str.ofString "runs") = some (.ref R)) (pco : m (Str.ofString "column") = some (.int (col : Int) tcol)) (pLe : m (Str.ofString "lead") = some (.ref oL)) (pMo : m (Str.ofString "moved") = some (.ref oM)) (N : News g L h (ownL ++ ((R, LCg.lst rvs) :: (fi, LCg.lst fvs) :: (ga, LCg.lst gvs) :: (sz, listOf svs.toArray ksz) :: (L + 1 + 1 + 1 + 1 + 1 + 1, q6) :: (L + 1 + 1 + 1 + 1 + 1, q5) :: (L + 1 + 1 + 1 + 1, q4) :: (L + 1 + 1 + 1, o3) :: (L + 1 + 1, o2) :: (L + 1, o1) :: rest)))
    (hL : WsR w xL txL σL oL ownL) (lL : σL.2.2.2.length ≤ 1000) (cL : ∀ c ∈ σL.2.2.2, c ≤ 1000)
    (hgv : IntsAre gvs (gp.map fun n : Nat => (n : Int))) (hgl : gp.length ≤ 30)
    (a1 : Ap L R) (a2 : Ap L sz) (a3 : Ap L ga) (a4 : Ap L fi)
    (h1 : 6 * (sqN σL.2.2.2 mm σL.2.2.2.length).sum + (mm : Int) * ((mm : Int) * (mm : Int) - 1) = 12 * (mm : Int) * (gp.map fun n : Nat => (n : Int)).sum)
    (next : ∀ h' tk' m' tc lvs, Fr g L h' m' → m' (Str.ofString "gaps") = some (.ref ga) → m' (Str.ofString "runs") = some (.ref R) → m' (Str.ofString "column") = some (.int (col : Int) tcol) → m' (Str.ofString "lead") = some (.ref oL) → m' (Str.ofString "moved") = some (.ref oM) → m' (Str.ofString "counts") = some (.ref tc) → News g L h' (ownL ++ ((R, LCg.lst rvs) :: (fi, LCg.lst fvs) :: (ga, LCg.lst gvs) :: (sz, listOf svs.toArray ksz) :: (L + 1 + 1 + 1 + 1 + 1 + 1, q6) :: (L + 1 + 1 + 1 + 1 + 1, q5) :: (L + 1 + 1 + 1 + 1, q4) :: (L + 1 + 1 + 1, o3) :: (L + 1 + 1, o2) :: (L + 1, o1) :: rest)) → IntsAre lvs (σL.2.2.2.map fun n : Nat => (n : Int)) → (tc, tupO lvs.toArray) ∈ ownL →
      wpAny (model Challenge.rw_tl0059_01.row.prog w) (callerA.deeper (envOfC (Str.ofString "law") (fdS 23) L fa cd)) (execs (trB.drop 9) (envOfC (Str.ofString "law") (fdS 23) L fa cd)) QT
        (lawE w L fa cd E1) { s with heap := h', toks := tk' }) :
    wpAny (model Challenge.rw_tl0059_01.row.prog w) (callerA.deeper (envOfC (Str.ofString "law") (fdS 23) L fa cd)) (execs (trB.drop 6) (envOfC (Str.ofString "law") (fdS 23) L fa cd)) QT
        (lawE w L fa cd E1) { s with heap := h, toks := tk } := by
  w_top off
  have mm0 : (ga, LCg.lst gvs) ∈ (ownL ++ ((R, LCg.lst rvs) :: (fi, LCg.lst fvs) :: (ga, LCg.lst gvs) :: (sz, listOf svs.toArray ksz) :: (L + 1 + 1 + 1 + 1 + 1 + 1, q6) :: (L + 1 + 1 + 1 + 1 + 1, q5) :: (L + 1 + 1 + 1 + 1, q4) :: (L + 1 + 1 + 1, o3) :: (L + 1 + 1, o2) :: (L + 1, o1) :: rest)) := (List.mem_append_right _ (by k_mem))
  have mm1 : (L + 1 + 1 + 1 + 1, q4) ∈ (ownL ++ ((R, LCg.lst rvs) :: (fi, LCg.lst fvs) :: (ga, LCg.lst gvs) :: (sz, listOf svs.toArray ksz) :: (L + 1 + 1 + 1 + 1 + 1 + 1, q6) :: (L + 1 + 1 + 1 + 1 + 1, q5) :: (L + 1 + 1 + 1 + 1, q4) :: (L + 1 + 1 + 1, o3) :: (L + 1 + 1, o2) :: (L + 1, o1) :: rest)) := (List.mem_append_right _ (by k_mem))
  have kk0 : ∀ p ∈ ownL, p ∈ (ownL ++ ((R, LCg.lst rvs) :: (fi, LCg.lst fvs) :: (ga, LCg.lst gvs) :: (sz, listOf svs.toArray ksz) :: (L + 1 + 1 + 1 + 1 + 1 + 1, q6) :: (L + 1 + 1 + 1 + 1 + 1, q5) :: (L + 1 + 1 + 1 + 1, q4) :: (L + 1 + 1 + 1, o3) :: (L + 1 + 1, o2) :: (L + 1, o1) :: rest)) := fun p hp => List.mem_append_left _ hp
  generalize (ownL ++ ((R, LCg.lst rvs) :: (fi, LCg.lst fvs) :: (ga, LCg.lst gvs) :: (sz, listOf svs.toArray ksz) :: (L + 1 + 1 + 1 + 1 + 1 + 1, q6) :: (L + 1 + 1 + 1 + 1 + 1, q5) :: (L + 1 + 1 + 1 + 1, q4) :: (L + 1 + 1 + 1, o3) :: (L + 1 + 1, o2) :: (L + 1, o1) :: rest)) = full at N next mm0 mm1 kk0
  replace N := news_cons N mm1
  replace N := news_cons N (.tail _ mm0)
  replace N := news_app N (fun p hp => .tail _ (.tail _ (kk0 p hp)))
  clear mm0 mm1 kk0
  replace F := fr_pin F (x := Str.ofString "gaps") (by exact pga)
  replace F := fr_pin F (x := Str.ofString "lead") (by exact pLe)
  obtain ⟨dL, tnL, tcL, lvs, tL1, tL2, uL2, tL3, uL3, tL4, tL5, ubL, sbL, rfl, hlvs⟩ := id hL
  simp only [List.cons_append, List.nil_append] at N
  k_steps
  refine Stop.go ?_
  (with_reducible rename Fr _ _ _ _ => F5)
  (with_reducible rename News _ _ _ _ => N5)
  refine k_enumT (newsTup N5 (by k_mem)) F5 N5 (fun h6 it he hit hT hlt hLi hti F6 N6 => ?_)
  clear F5 N5
  refine ⟨it, tcL, lvs, _, fun i ys => ys.length = i ∧ IntsAre ys (sqN σL.2.2.2 mm i), rfl, rfl, ?_, he, hit, hT, hlt, hLi, hti, (N6 (tcL, tupO lvs.toArray) (by k_mem)).2.1, F6, N6, fun i ys h => Nat.le_of_eq h.1, ⟨rfl, .nil⟩, ?_, ?_⟩
  · rw [sizeLine_eq, hlvs.length, List.length_map]; omega
  · rintro i v tk₀ ys own C oC D m₂ h7 tk7 E7 hv ⟨hyl, hys⟩ hC hx hx2 F7 N7
    obtain ⟨x', tx', rfl, hx'⟩ := hlvs.at i v hv
    obtain ⟨c, hc, rfl⟩ := nat_at hx'
    have hc1 := cL c (List.mem_of_getElem? hc)
    have hi1 : i ≤ 1000 := Nat.le_trans (Nat.le_of_lt (List.getElem?_eq_some_iff.mp hc).1) lL
    refine wpAny_tests_nil ?_
    simp only [if_true]
    simp only [List.cons_append] at N7
    k_steps
    refine EOut.intro (by assumption) (by assumption) ?_
    refine ⟨by rw [List.length_append, hyl]; rfl, ?_⟩
    rw [sqN, List.range_succ, List.map_append]
    refine intsAre_append hys ?_
    have e : σL.2.2.2.getD i 0 = c := by rw [List.getD_eq_getElem?_getD, hc]; rfl
    rw [← e]
    exact .cons _ _ .nil
  · rintro D ys h8 tk8 ⟨hyl, hys⟩ F8 N8 off8
    clear F6 N6
    have hlen : lvs.length = σL.2.2.2.length := by rw [hlvs.length, List.length_map]
    k_steps
    · rename (_ ≠ _) => hne
      exact absurd (by rw [hlen]; exact h1) hne
    · refine Stop.go ?_
      (with_reducible rename Fr _ _ _ _ => F9)
      (with_reducible rename News _ _ _ _ => N9)
      exact next _ _ _ tcL lvs F9 (by first | rfl | assumption) (by first | rfl | assumption) (by first | rfl | assumption) (by first | rfl | assumption) (by first | rfl | assumption) rfl (news_sub N9 fun p hp => by repeat (first | exact hp | refine .tail _ ?_)) hlvs (by k_mem)
end
end S_LW11
section S_LW12
local macro_rules | `(tactic| walk_at "pad") => `(tactic| skip)
section
variable {w : World} {base : Heap} {p : Program} {loose : List Str} {mean : ExcName → Option Value} {mg mb : Str → Option Value}
set_option maxHeartbeats 4000000
local macro_rules | `(tactic| walk_at "execs cons") => `(tactic| (with_reducible refine stAssign 190 ?_))

local macro_rules | `(tactic| walk_at "execs cons Assign cons") => `(tactic| (with_reducible refine stAssign 190 ?_))

theorem thN_succ (cnt : List Nat) (i c : Nat) (h : cnt[i]? = some c) : thN cnt (i + 1) = thN cnt i ++ (if 0 < c then [i] else []) := by
  unfold thN
  rw [List.range_succ, List.filter_append]
  have e : cnt.getD i 0 = c := by rw [List.getD_eq_getElem?_getD, h]; rfl
  by_cases h0 : 0 < c
  · rw [if_pos h0, List.filter_cons_of_pos (by rw [e]; exact decide_eq_true h0)]; rfl
  · rw [if_neg h0, List.filter_cons_of_neg (by rw [e]; exact fun z => h0 (of_decide_eq_true z))]; rfl
theorem turn_6 (g : Heap) (L fa : Addr) (cd : Value) (o1 o2 o3 q4 q5 q6 : Obj) (s : Shared) (QT : Flow → Shared → Prop) (E1 : Value → Shared → Prop)
    (h : Heap) (tk : Nat) (m : Str → Option Value) (sz ga fi : Addr) (svs gvs fvs : List Value) (ksz : Nat) (mm : Nat) (tm : Tok) (rest : List (Addr × Obj))
    (B : Below callerA base [] g) (X : (KK w.params).In g) (T : Top p loose mean mg mb g)
    (hg2 : 2 ≤ mm) (hm9 : mm ≤ 9) (hrest : ∀ p ∈ rest, Ap L p.1) (w1 w5 w6 : Option Value)
    (d1 : o1.data = .cell w1) (d2 : o2.data = .cell (some (.ref sz))) (d3 : o3.data = .cell (some (.ref fi))) (e4 : q4.data = .cell (some (.int (mm : Int) tm))) (e5 : q5.data = .cell w5) (e6 : q6.data = .cell w6)
    (R oL oM tc : Addr) (rvs cvs : List Value) (rs gp cnt : List Nat) (col : Nat) (tcol : Tok)
    (F : Fr g L h m) (pga : m (Str.ofString "gaps") = some (.ref ga)) (pru : m (Str.ofString "runs") = some (.ref R)) (pco : m (Str.ofString "column") = some (.int (col : Int) tcol)) (pLe : m (Str.ofString "lead") = some (.ref oL)) (pMo : m (Str.ofString "moved") = some (.ref oM)) (pCo : m (Str.ofString "counts") = some (.ref tc)) (N : News g L h ((tc, tupO cvs.toArray) :: (R, LCg.lst rvs) :: (fi, LCg.lst fvs) :: (ga, LCg.lst gvs) :: (sz, listOf svs.toArray ksz) :: (L + 1 + 1 + 1 + 1 + 1 + 1, q6) :: (L + 1 + 1 + 1 + 1 + 1, q5) :: (L + 1 + 1 + 1 + 1, q4) :: (L + 1 + 1 + 1, o3) :: (L + 1 + 1, o2) :: (L + 1, o1) :: rest))
    (hcv : IntsAre cvs (cnt.map fun n : Nat => (n : Int))) (lL : cnt.length ≤ 1000) (cL : ∀ c ∈ cnt, c ≤ 1000)
    (a1 : Ap L R) (a2 : Ap L sz) (a3 : Ap L ga) (a4 : Ap L fi)
    (next : ∀ h' tk' m' th tvs q6', Fr g L h' m' → m' (Str.ofString "gaps") = some (.ref ga) → m' (Str.ofString "runs") = some (.ref R) → m' (Str.ofString "column") = some (.int (col : Int) tcol) → m' (Str.ofString "lead") = some (.ref oL) → m' (Str.ofString "moved") = some (.ref oM) → News g L h' ((th, LCg.lst tvs) :: (tc, tupO cvs.toArray) :: (R, LCg.lst rvs) :: (fi, LCg.lst fvs) :: (ga, LCg.lst gvs) :: (sz, listOf svs.toArray ksz) :: (L + 1 + 1 + 1 + 1 + 1 + 1, q6') :: (L + 1 + 1 + 1 + 1 + 1, q5) :: (L + 1 + 1 + 1 + 1, q4) :: (L + 1 + 1 + 1, o3) :: (L + 1 + 1, o2) :: (L + 1, o1) :: rest) → q6'.data = .cell (some (.ref th)) → IntsAre tvs ((thN cnt cnt.length).map fun n : Nat => (n : Int)) → Ap L th →
      wpAny (model Challenge.rw_tl0059_01.row.prog w) (callerA.deeper (envOfC (Str.ofString "law") (fdS 23) L fa cd)) (execs (trB.drop 10) (envOfC (Str.ofString "law") (fdS 23) L fa cd)) QT
        (lawE w L fa cd E1) { s with heap := h', toks := tk' }) :
    wpAny (model Challenge.rw_tl0059_01.row.prog w) (callerA.deeper (envOfC (Str.ofString "law") (fdS 23) L fa cd)) (execs (trB.drop 9) (envOfC (Str.ofString "law") (fdS 23) L fa cd)) QT
        (lawE w L fa cd E1) { s with heap := h, toks := tk } := by
  w_top off
  unfold Ap at a1 a2 a3 a4
  replace F := fr_pin F (x := Str.ofString "gaps") (by exact pga)
  replace F := fr_pin F (x := Str.ofString "runs") (by exact pru)
  replace F := fr_pin F (x := Str.ofString "column") (by exact pco)
  replace F := fr_pin F (x := Str.ofString "lead") (by exact pLe)
  replace F := fr_pin F (x := Str.ofString "moved") (by exact pMo)
  replace F := fr_pin F (x := Str.ofString "counts") (by exact pCo)
  k_steps
  refine Stop.go ?_
  (with_reducible rename Fr _ _ _ _ => F5)
  (with_reducible rename News _ _ _ _ => N5)
  refine k_enumT (newsTup N5 (by k_mem)) F5 N5 (fun h6 it he hit hT hlt hLi hti F6 N6 => ?_)
  clear F5 N5
  have ap : Ap L tc := ⟨tup_cell N6 (.head _) (by k_mem) d1, tup_cell N6 (.head _) (by k_mem) d2, tup_cell N6 (.head _) (by k_mem) d3, tup_cell N6 (.head _) (by k_mem) e4, tup_cell N6 (.head _) (by k_mem) e5, tup_cell N6 (.head _) (by k_mem) e6⟩
  refine ⟨it, tc, cvs, _, fun i ys => ys.length ≤ i ∧ IntsAre ys ((thN cnt i).map fun n : Nat => (n : Int)), rfl, rfl, ?_, he, hit, hT, hlt, hLi, hti, (N6 (tc, tupO cvs.toArray) (by k_mem)).2.1, F6, N6, fun i ys h => h.1, ⟨Nat.le_refl _, .nil⟩, ?_, ?_⟩
  · rw [sizeLine_eq, hcv.length, List.length_map]; omega
  · rintro i v tk₀ ys own C oC D m₂ h7 tk7 E7 hv ⟨hyl, hys⟩ hC hx hx2 F7 N7
    obtain ⟨x', tx', rfl, hx'⟩ := hcv.at i v hv
    obtain ⟨c, hc, rfl⟩ := nat_at hx'
    have hc1 := cL c (List.mem_of_getElem? hc)
    have hi1 : i ≤ 1000 := Nat.le_trans (Nat.le_of_lt (List.getElem?_eq_some_iff.mp hc).1) lL
    refine wpAny_tests_one ?_
    simp only [List.cons_append] at N7
    k_steps
    · rename ((0 : Int) < _) => h0
      refine EOut.intro (by assumption) (by assumption) ?_
      refine ⟨by rw [List.length_append]; exact Nat.succ_le_succ hyl, ?_⟩
      rw [thN_succ cnt i c hc, if_pos (Int.natCast_pos.mp h0), List.map_append]
      exact intsAre_append hys (.cons _ _ .nil)
    · rename (¬ (0 : Int) < _) => h0
      refine EOut.intro (by assumption) (by assumption) ?_
      refine ⟨Nat.le_succ_of_le hyl, ?_⟩
      rw [thN_succ cnt i c hc, if_neg (fun z => h0 (Int.natCast_pos.mpr z)), List.append_nil]
      exact hys
  · rintro D ys h8 tk8 ⟨hyl, hys⟩ F8 N8 off8
    clear F6 N6
    have hlen : cvs.length = cnt.length := by rw [hcv.length, List.length_map]
    k_steps
    (with_reducible rename Fr _ _ _ _ => F9)
    (with_reducible rename News _ _ _ _ => N9)
    have aD : Ap L D := ⟨ap_cell N9 (.head _) (by k_mem) rfl d1, ap_cell N9 (.head _) (by k_mem) rfl d2, ap_cell N9 (.head _) (by k_mem) rfl d3, ap_cell N9 (.head _) (by k_mem) rfl e4, ap_cell N9 (.head _) (by k_mem) rfl e5, ap_cell N9 (.head _) (by k_mem) rfl e6⟩
    refine stCN (own := [(D, _), (tc, _), (R, _), (fi, _), (ga, _), (sz, _)]) (rest := (L + 1 + 1 + 1 + 1 + 1, q5) :: (L + 1 + 1 + 1 + 1, q4) :: (L + 1 + 1 + 1, o3) :: (L + 1 + 1, o2) :: (L + 1, o1) :: rest) F9 N9 rfl e6 ?_ ?_ (fun h9 q6' F10 N10 e6' => ?_)
    · intro p hp
      rcases List.mem_cons.mp hp with rfl | hp
      · exact Ne.symm aD.2.2.2.2.2
      rcases List.mem_cons.mp hp with rfl | hp
      · exact Ne.symm ap.2.2.2.2.2
      rcases List.mem_cons.mp hp with rfl | hp
      · exact Ne.symm a1.2.2.2.2.2
      rcases List.mem_cons.mp hp with rfl | hp
      · exact Ne.symm a4.2.2.2.2.2
      rcases List.mem_cons.mp hp with rfl | hp
      · exact Ne.symm a3.2.2.2.2.2
      rcases List.mem_cons.mp hp with rfl | hp
      · exact Ne.symm a2.2.2.2.2.2
      exact nomatch hp
    · intro p hp
      rcases List.mem_cons.mp hp with rfl | hp
      · exact Nat.ne_of_lt (Nat.lt_succ_self _)
      rcases List.mem_cons.mp hp with rfl | hp
      · exact Nat.ne_of_lt (Nat.lt_succ_of_lt (Nat.lt_succ_self _))
      rcases List.mem_cons.mp hp with rfl | hp
      · exact Nat.ne_of_lt (Nat.lt_succ_of_lt (Nat.lt_succ_of_lt (Nat.lt_succ_self _)))
      rcases List.mem_cons.mp hp with rfl | hp
      · exact Nat.ne_of_lt (Nat.lt_succ_of_lt (Nat.lt_succ_of_lt (Nat.lt_succ_of_lt (Nat.lt_succ_self _))))
      rcases List.mem_cons.mp hp with rfl | hp
      · exact Nat.ne_of_lt (Nat.lt_succ_of_lt (Nat.lt_succ_of_lt (Nat.lt_succ_of_lt (Nat.lt_succ_of_lt (Nat.lt_succ_self _)))))
      exact Ne.symm (hrest p hp).2.2.2.2.2
    simp only [List.cons_append, List.nil_append] at N10
    k_steps
    refine Stop.go ?_
    rw [hlen] at hys
    exact next _ _ _ D ys q6' (by assumption) rfl rfl rfl rfl rfl N10 e6' hys aD
end
end S_LW12
section S_LW13
section
variable {w : World} {base : Heap} {p : Program} {loose : List Str} {mean : ExcName → Option Value} {mg mb : Str → Option Value}
set_option maxHeartbeats 4000000
local macro_rules | `(tactic| walk_at "compareOp In int ref") => `(tactic| (refine Stop.out ?_))
local macro_rules | `(tactic| walk_at "exec Assign cons ListComp") => `(tactic| (k_here; (with_reducible show wpAny _ _ (exec (PySem.Stmt.Assign _ (PySem.Expr.ListComp _ [PySem.Comprehension.mk (PySem.Expr.Name _ _) _ [_] _] _ _) _) _) _ _ _); k_dflt (refine Assign_ListComp_cell (by k_asm) (by rfl) (by with_unfolding_all rfl) (by with_unfolding_all rfl) (by rfl) (by with_unfolding_all rfl) (by intro _; rfl) (by intro _; rfl) (by decide) (by rfl) (by rfl) ?_)))
local macro_rules | `(tactic| walk_at "eval ListComp") => `(tactic| (k_here; (with_reducible show wpAny _ _ (eval (PySem.Expr.ListComp _ [PySem.Comprehension.mk (PySem.Expr.Name _ _) _ [_] _] _ _) _) _ _ _); k_dflt (refine LCt.ListComp_T (F₀ := by k_asm) (by with_unfolding_all rfl) (by decide) (by rfl) (by decide) (by rfl) ?_)))
local macro_rules | `(tactic| walk_at "execs cons") => `(tactic| (with_reducible refine stAssign 191 ?_))

local macro_rules | `(tactic| walk_at "execs cons Assign cons") => `(tactic| (with_reducible refine stAssign 191 ?_))

theorem enN_succ (D ths : List Nat) (i c : Nat) (h : ths[i]? = some c) : enN D ths (ths.take (i + 1)) = enN D ths (ths.take i) ++ (if (D.filter fun more => decide (c + more ∈ ths)).isEmpty = true then [c] else []) := by
  unfold enN
  rw [List.take_add_one, h, List.filter_append]
  by_cases h0 : (D.filter fun more => decide (c + more ∈ ths)).isEmpty = true
  · rw [if_pos h0]; exact congrArg _ (List.filter_cons_of_pos h0)
  · rw [if_neg h0]; exact congrArg _ (List.filter_cons_of_neg h0)
theorem en_mem (ths : List Nat) (c z : Nat) : ((c : Int) + (z : Int) ∈ ths.map fun n : Nat => (n : Int)) ↔ c + z ∈ ths := by
  rw [List.mem_map]
  constructor
  · rintro ⟨a, ha, e⟩
    rwa [← (show a = c + z by omega)]
  · intro h
    exact ⟨c + z, h, rfl⟩
theorem en_fold (ths D : List Nat) (c : Nat) : decide (List.foldl (fun acc z => if decide ((c : Int) + z ∈ List.map (fun n : Nat => (n : Int)) ths) = true then acc ++ [z] else acc) [] (List.map (fun n : Nat => (n : Int)) D) = []) = (D.filter fun more => decide (c + more ∈ ths)).isEmpty := by
  rw [foldl_filter (fun z : Int => decide ((c : Int) + z ∈ List.map (fun n : Nat => (n : Int)) ths)), List.nil_append, List.filter_map]
  have e : ((fun z : Int => decide ((c : Int) + z ∈ List.map (fun n : Nat => (n : Int)) ths)) ∘ fun n : Nat => (n : Int)) = fun more => decide (c + more ∈ ths) := by
    funext z
    exact decide_eq_decide.mpr (en_mem ths c z)
  rw [e]
  cases D.filter fun more => decide (c + more ∈ ths) <;> rfl
theorem kf_ints_of : ∀ {vs : List Value} {ns : List Int}, IntsAre vs ns → kf_ints vs = true
  | _, _, .nil => rfl
  | _, _, .cons _ _ t => by unfold kf_ints; exact kf_ints_of t
theorem mem_isInt (k : Int) : ∀ {vs : List Value} {ns : List Int}, IntsAre vs ns → vs.any (isInt k) = decide (k ∈ ns)
  | _, _, .nil => by simp
  | _, _, .cons a t r => by
    rw [List.any_cons, mem_isInt k r]
    show (a == k || _) = _
    by_cases h : a = k
    · subst h; simp
    · have h' : ¬ k = a := fun e => h e.symm
      simp [h, h']
theorem turn_7 (g : Heap) (L fa : Addr) (cd : Value) (o1 o2 o3 q4 q5 q6 : Obj) (s : Shared) (QT : Flow → Shared → Prop) (E1 : Value → Shared → Prop)
    (h : Heap) (tk : Nat) (m : Str → Option Value) (sz ga fi : Addr) (svs gvs fvs : List Value) (ksz : Nat) (mm : Nat) (tm : Tok) (rest : List (Addr × Obj))
    (B : Below callerA base [] g) (X : (KK w.params).In g) (T : Top p loose mean mg mb g)
    (hg2 : 2 ≤ mm) (hm9 : mm ≤ 9) (hrest : ∀ p ∈ rest, Ap L p.1) (th : Addr) (w1 w5 : Option Value)
    (d1 : o1.data = .cell w1) (d2 : o2.data = .cell (some (.ref sz))) (d3 : o3.data = .cell (some (.ref fi))) (e4 : q4.data = .cell (some (.int (mm : Int) tm))) (e5 : q5.data = .cell w5) (e6 : q6.data = .cell (some (.ref th)))
    (R oL oM : Addr) (rvs tvs : List Value) (D ths : List Nat) (col : Nat) (tcol : Tok)
    (F : Fr g L h m) (pga : m (Str.ofString "gaps") = some (.ref ga)) (pru : m (Str.ofString "runs") = some (.ref R)) (pco : m (Str.ofString "column") = some (.int (col : Int) tcol)) (pLe : m (Str.ofString "lead") = some (.ref oL)) (pMo : m (Str.ofString "moved") = some (.ref oM)) (N : News g L h ((th, LCg.lst tvs) :: (R, LCg.lst rvs) :: (fi, LCg.lst fvs) :: (ga, LCg.lst gvs) :: (sz, listOf svs.toArray ksz) :: (L + 1 + 1 + 1 + 1 + 1 + 1, q6) :: (L + 1 + 1 + 1 + 1 + 1, q5) :: (L + 1 + 1 + 1 + 1, q4) :: (L + 1 + 1 + 1, o3) :: (L + 1 + 1, o2) :: (L + 1, o1) :: rest))
    (htv : IntsAre tvs (ths.map fun n : Nat => (n : Int))) (hS : IntsAre svs (D.map fun n : Nat => (n : Int))) (hDl : D.length = 3) (hthl : ths.length ≤ 1000) (hthb : ∀ a ∈ ths, a ≤ 1000) (hDb : ∀ a ∈ D, 2 ≤ a ∧ a ≤ 40)
    (a1 : Ap L R) (a2 : Ap L sz) (a3 : Ap L ga) (a4 : Ap L fi) (a5 : Ap L th)
    (next : ∀ h' tk' m' en evs, Fr g L h' m' → m' (Str.ofString "gaps") = some (.ref ga) → m' (Str.ofString "runs") = some (.ref R) → m' (Str.ofString "column") = some (.int (col : Int) tcol) → m' (Str.ofString "lead") = some (.ref oL) → m' (Str.ofString "moved") = some (.ref oM) → m' (Str.ofString "ends") = some (.ref en) → News g L h' ((en, LCg.lst evs) :: (R, LCg.lst rvs) :: (fi, LCg.lst fvs) :: (ga, LCg.lst gvs) :: (sz, listOf svs.toArray ksz) :: (L + 1 + 1 + 1 + 1 + 1 + 1, q6) :: (L + 1 + 1 + 1 + 1 + 1, q5) :: (L + 1 + 1 + 1 + 1, q4) :: (L + 1 + 1 + 1, o3) :: (L + 1 + 1, o2) :: (L + 1, o1) :: rest) → IntsAre evs ((enN D ths ths).map fun n : Nat => (n : Int)) →
      wpAny (model Challenge.rw_tl0059_01.row.prog w) (callerA.deeper (envOfC (Str.ofString "law") (fdS 23) L fa cd)) (execs (trB.drop 11) (envOfC (Str.ofString "law") (fdS 23) L fa cd)) QT
        (lawE w L fa cd E1) { s with heap := h', toks := tk' }) :
    wpAny (model Challenge.rw_tl0059_01.row.prog w) (callerA.deeper (envOfC (Str.ofString "law") (fdS 23) L fa cd)) (execs (trB.drop 10) (envOfC (Str.ofString "law") (fdS 23) L fa cd)) QT
        (lawE w L fa cd E1) { s with heap := h, toks := tk } := by
  w_top off
  have hsuf : ∀ p ∈ (R, LCg.lst rvs) :: (fi, LCg.lst fvs) :: (ga, LCg.lst gvs) :: (sz, listOf svs.toArray ksz) :: (L + 1 + 1 + 1 + 1 + 1 + 1, q6) :: (L + 1 + 1 + 1 + 1 + 1, q5) :: (L + 1 + 1 + 1 + 1, q4) :: (L + 1 + 1 + 1, o3) :: (L + 1 + 1, o2) :: (L + 1, o1) :: rest, p ∈ (th, LCg.lst tvs) :: (R, LCg.lst rvs) :: (fi, LCg.lst fvs) :: (ga, LCg.lst gvs) :: (sz, listOf svs.toArray ksz) :: (L + 1 + 1 + 1 + 1 + 1 + 1, q6) :: (L + 1 + 1 + 1 + 1 + 1, q5) :: (L + 1 + 1 + 1 + 1, q4) :: (L + 1 + 1 + 1, o3) :: (L + 1 + 1, o2) :: (L + 1, o1) :: rest := fun p hp => .tail _ hp
  have mm0 : (th, LCg.lst tvs) ∈ ((th, LCg.lst tvs) :: (R, LCg.lst rvs) :: (fi, LCg.lst fvs) :: (ga, LCg.lst gvs) :: (sz, listOf svs.toArray ksz) :: (L + 1 + 1 + 1 + 1 + 1 + 1, q6) :: (L + 1 + 1 + 1 + 1 + 1, q5) :: (L + 1 + 1 + 1 + 1, q4) :: (L + 1 + 1 + 1, o3) :: (L + 1 + 1, o2) :: (L + 1, o1) :: rest) := (by k_mem)
  have mm1 : (sz, listOf svs.toArray ksz) ∈ ((th, LCg.lst tvs) :: (R, LCg.lst rvs) :: (fi, LCg.lst fvs) :: (ga, LCg.lst gvs) :: (sz, listOf svs.toArray ksz) :: (L + 1 + 1 + 1 + 1 + 1 + 1, q6) :: (L + 1 + 1 + 1 + 1 + 1, q5) :: (L + 1 + 1 + 1 + 1, q4) :: (L + 1 + 1 + 1, o3) :: (L + 1 + 1, o2) :: (L + 1, o1) :: rest) := (by k_mem)
  have mm2 : (L + 1 + 1 + 1 + 1 + 1 + 1, q6) ∈ ((th, LCg.lst tvs) :: (R, LCg.lst rvs) :: (fi, LCg.lst fvs) :: (ga, LCg.lst gvs) :: (sz, listOf svs.toArray ksz) :: (L + 1 + 1 + 1 + 1 + 1 + 1, q6) :: (L + 1 + 1 + 1 + 1 + 1, q5) :: (L + 1 + 1 + 1 + 1, q4) :: (L + 1 + 1 + 1, o3) :: (L + 1 + 1, o2) :: (L + 1, o1) :: rest) := (by k_mem)
  have mm3 : (L + 1 + 1, o2) ∈ ((th, LCg.lst tvs) :: (R, LCg.lst rvs) :: (fi, LCg.lst fvs) :: (ga, LCg.lst gvs) :: (sz, listOf svs.toArray ksz) :: (L + 1 + 1 + 1 + 1 + 1 + 1, q6) :: (L + 1 + 1 + 1 + 1 + 1, q5) :: (L + 1 + 1 + 1 + 1, q4) :: (L + 1 + 1 + 1, o3) :: (L + 1 + 1, o2) :: (L + 1, o1) :: rest) := (by k_mem)
  generalize ((th, LCg.lst tvs) :: (R, LCg.lst rvs) :: (fi, LCg.lst fvs) :: (ga, LCg.lst gvs) :: (sz, listOf svs.toArray ksz) :: (L + 1 + 1 + 1 + 1 + 1 + 1, q6) :: (L + 1 + 1 + 1 + 1 + 1, q5) :: (L + 1 + 1 + 1 + 1, q4) :: (L + 1 + 1 + 1, o3) :: (L + 1 + 1, o2) :: (L + 1, o1) :: rest) = full at N hsuf mm0 mm1 mm2 mm3
  replace N := news_cons N mm3
  replace N := news_cons N (.tail _ mm2)
  replace N := news_cons N (.tail _ (.tail _ mm1))
  replace N := news_cons N (.tail _ (.tail _ (.tail _ mm0)))
  clear mm0 mm1 mm2 mm3
  k_steps
  refine Stop.go ?_
  (with_reducible rename Fr _ _ _ _ => F5)
  (with_reducible rename News _ _ _ _ => N5)
  refine ⟨th, tvs, _, fun i ys => ys.length ≤ i ∧ IntsAre ys ((enN D ths (ths.take i)).map fun n : Nat => (n : Int)), rfl, rfl, ?_, News.isList N5 (.head _), (N5 _ (.head _)).2.1, F5, N5, fun i ys h => h.1, ⟨Nat.le_refl _, .nil⟩, ?_, ?_⟩
  · rw [sizeLine_eq, htv.length, List.length_map]; omega
  · rintro i v ys own C oC K oK Dl h7 tk7 E7 hv ⟨hyl, hys⟩ hK F7 N7
    obtain ⟨x', tx', rfl, hx'⟩ := htv.at i v hv
    obtain ⟨c, hc, rfl⟩ := nat_at hx'
    have hc1 := hthb c (List.mem_of_getElem? hc)
    simp only [List.cons_append] at N7
    k_steps
    refine Stop.go ?_
    (with_reducible rename Fr _ _ _ _ => F8)
    (with_reducible rename News _ _ _ _ => N8)
    refine LCt.CompSrcT.ledger rfl F8 N8 (ax := sz) (its := svs.toArray) (k := ksz) (by k_mem) (by rw [sizeLine_eq, List.size_toArray, hS.length, List.length_map]; omega) (fun g5 => ?_)
    refine kci_list (fun acc z => if decide ((c : Int) + z ∈ ths.map fun n : Nat => (n : Int)) then acc ++ [z] else acc) hS ?_ ?_ ?_
    · intro z tz I2 oI2 C2 oC2 D2 m₂ ys2 acc h5 tk5 E5 hz hys2 hC2 hx2 F6 N6 off6 ne6 mk
      obtain ⟨z, hzn, rfl⟩ := List.mem_map.mp hz
      have hz1 := hDb z hzn
      k_steps
      refine Stop.go ?_
      (with_reducible rename News _ _ _ _ => N9)
      refine kf_in (b := decide ((c : Int) + (z : Int) ∈ ths.map fun n : Nat => (n : Int))) N9 (its := tvs.toArray) (n := tvs.length) (by k_mem) (kf_ints_of htv) (mem_isInt _ htv) ?_
      cases hmm : decide ((c : Int) + (z : Int) ∈ ths.map fun n : Nat => (n : Int))
      all_goals k_steps
      rotate_left
      · refine LCg.CompEnd.intro (by assumption) (by assumption) _ (fun p hp => hp) off6 (.inr ⟨_, by k_mem, rfl, _, rfl⟩) (kci_el rfl rfl rfl)
      · refine LCg.CompEnd.intro (by assumption) (by assumption) _ (fun p hp => hp) off6 (.inr ⟨_, by k_mem, rfl, _, rfl⟩) (kci_no rfl rfl)
    · unfold KPfDone
      intro ys3 hys3 hyl3 D3 h6 tk6 F6 N6 off6
      k_steps
      all_goals rename (decide (_ = []) = _) => hmm
      all_goals rw [en_fold] at hmm
      · refine EOut.intro (by assumption) (news_sub (by assumption) fun p hp => .tail _ (.tail _ hp)) ?_
        refine ⟨by rw [List.length_append]; exact Nat.succ_le_succ hyl, ?_⟩
        rw [enN_succ D ths i c hc, if_pos hmm, List.map_append]
        exact intsAre_append hys (.cons _ _ .nil)
      · refine EOut.intro (by assumption) (news_sub (by assumption) fun p hp => .tail _ (.tail _ hp)) ?_
        refine ⟨Nat.le_succ_of_le hyl, ?_⟩
        rw [enN_succ D ths i c hc, if_neg (fun h => Bool.false_ne_true (hmm.symm.trans h)), List.append_nil]
        exact hys
    · intro acc z
      dsimp only
      split <;> simp
  · rintro Dl ys h8 tk8 ⟨hyl, hys⟩ F8 N8 off8
    k_steps
    refine Stop.go ?_
    (with_reducible rename Fr _ _ _ _ => F9)
    (with_reducible rename News _ _ _ _ => N9)
    have hlen : tvs.length = ths.length := by rw [htv.length, List.length_map]
    rw [hlen, List.take_length] at hys
    exact next _ _ _ Dl ys F9 (by first | rfl | assumption) (by first | rfl | assumption) (by first | rfl | assumption) (by first | rfl | assumption) (by first | rfl | assumption) rfl (news_sub N9 fun p hp => by
      rcases List.mem_cons.mp hp with rfl | hp
      · exact .head _
      · exact .tail _ (.tail _ (.tail _ (.tail _ (.tail _ (hsuf p hp)))))) hys
end
end S_LW13
section S_LW14
section
variable {w : World} {base : Heap} {p : Program} {loose : List Str} {mean : ExcName → Option Value} {mg mb : Str → Option Value}
set_option maxHeartbeats 4000000
theorem bne_len (ens : List Nat) : (decide (ens.length = 1) != (((ens.map fun n : Nat => (n : Int)).length : Int) == 1)) = false := by
  rw [List.length_map]
  by_cases h : ens.length = 1
  · rw [h]; rfl
  · have h' : ¬ (ens.length : Int) = 1 := by omega
    simp [h, h']
theorem turn_8 (g : Heap) (L fa : Addr) (cd : Value) (o1 o2 o3 q4 q5 q6 : Obj) (s : Shared) (QT : Flow → Shared → Prop) (E1 : Value → Shared → Prop)
    (h : Heap) (tk : Nat) (m : Str → Option Value) (sz ga fi : Addr) (svs gvs fvs : List Value) (ksz : Nat) (mm : Nat) (tm : Tok) (rest : List (Addr × Obj))
    (B : Below callerA base [] g) (X : (KK w.params).In g) (T : Top p loose mean mg mb g)
    (hg2 : 2 ≤ mm) (hm9 : mm ≤ 9) (hrest : ∀ p ∈ rest, Ap L p.1) (top : Nat) (t5 : Tok) (w1 w6 : Option Value)
    (d1 : o1.data = .cell w1) (d2 : o2.data = .cell (some (.ref sz))) (d3 : o3.data = .cell (some (.ref fi))) (e4 : q4.data = .cell (some (.int (mm : Int) tm))) (e5 : q5.data = .cell (some (.int (top : Int) t5))) (e6 : q6.data = .cell w6)
    (R oL oM en : Addr) (rvs evs : List Value) (rs ens : List Nat) (col : Nat) (tcol : Tok) (xL xM : Str) (txL txM : Tok) (σL σM σR : Nat × Nat × Nat × List Nat) (ownL ownM : List (Addr × Obj))
    (F : Fr g L h m) (pga : m (Str.ofString "gaps") = some (.ref ga)) (pru : m (Str.ofString "runs") = some (.ref R)) (pco : m (Str.ofString "column") = some (.int (col : Int) tcol)) (pLe : m (Str.ofString "lead") = some (.ref oL)) (pMo : m (Str.ofString "moved") = some (.ref oM)) (pEn : m (Str.ofString "ends") = some (.ref en)) (N : News g L h ((en, LCg.lst evs) :: (ownM ++ (ownL ++ ((R, LCg.lst rvs) :: (fi, LCg.lst fvs) :: (ga, LCg.lst gvs) :: (sz, listOf svs.toArray ksz) :: (L + 1 + 1 + 1 + 1 + 1 + 1, q6) :: (L + 1 + 1 + 1 + 1 + 1, q5) :: (L + 1 + 1 + 1 + 1, q4) :: (L + 1 + 1 + 1, o3) :: (L + 1 + 1, o2) :: (L + 1, o1) :: rest)))))
    (hL : WsR w xL txL σL oL ownL) (hM : WsR w xM txM σM oM ownM) (lL : σL.2.2.2.length ≤ 1000) (lM : σM.2.2.2.length ≤ 1000) (hσ : wsAt (leadW (rs.map (fun r => top - r)) (mm + 1)) = σR) (lR : σR.2.2.2.length ≤ 1000)
    (hrv : IntsAre rvs (rs.map fun n : Nat => (n : Int))) (hrl : rs.length = mm) (hrb : ∀ a ∈ rs, a ≤ 39) (htop : top ≤ 39) (htop2 : ∀ a ∈ rs, a ≤ top)
    (hev : IntsAre evs (ens.map fun n : Nat => (n : Int))) (hel : ens.length ≤ 1000)
    (h1 : decide (σL.2.2 = σR.2.2) = decide (ens.length = 1)) (h2 : decide (σL.2.2 = σM.2.2) = false)
    (done : ∀ h' tk' m', Fr g L h' m' → m' (Str.ofString "gaps") = some (.ref ga) → News g L h' ((fi, LCg.lst fvs) :: (ga, LCg.lst gvs) :: (sz, listOf svs.toArray ksz) :: (L + 1 + 1 + 1 + 1 + 1 + 1, q6) :: (L + 1 + 1 + 1 + 1 + 1, q5) :: (L + 1 + 1 + 1 + 1, q4) :: (L + 1 + 1 + 1, o3) :: (L + 1 + 1, o2) :: (L + 1, o1) :: rest) → QT .next { s with heap := h', toks := tk' }) :
    wpAny (model Challenge.rw_tl0059_01.row.prog w) (callerA.deeper (envOfC (Str.ofString "law") (fdS 23) L fa cd)) (execs (trB.drop 11) (envOfC (Str.ofString "law") (fdS 23) L fa cd)) QT
        (lawE w L fa cd E1) { s with heap := h, toks := tk } := by
  w_top off
  have hsuf : ∀ p ∈ (fi, LCg.lst fvs) :: (ga, LCg.lst gvs) :: (sz, listOf svs.toArray ksz) :: (L + 1 + 1 + 1 + 1 + 1 + 1, q6) :: (L + 1 + 1 + 1 + 1 + 1, q5) :: (L + 1 + 1 + 1 + 1, q4) :: (L + 1 + 1 + 1, o3) :: (L + 1 + 1, o2) :: (L + 1, o1) :: rest, p ∈ (en, LCg.lst evs) :: (ownM ++ (ownL ++ ((R, LCg.lst rvs) :: (fi, LCg.lst fvs) :: (ga, LCg.lst gvs) :: (sz, listOf svs.toArray ksz) :: (L + 1 + 1 + 1 + 1 + 1 + 1, q6) :: (L + 1 + 1 + 1 + 1 + 1, q5) :: (L + 1 + 1 + 1 + 1, q4) :: (L + 1 + 1 + 1, o3) :: (L + 1 + 1, o2) :: (L + 1, o1) :: rest))) := fun p hp => .tail _ (List.mem_append_right _ (List.mem_append_right _ (.tail _ hp)))
  have mm0 : (en, LCg.lst evs) ∈ ((en, LCg.lst evs) :: (ownM ++ (ownL ++ ((R, LCg.lst rvs) :: (fi, LCg.lst fvs) :: (ga, LCg.lst gvs) :: (sz, listOf svs.toArray ksz) :: (L + 1 + 1 + 1 + 1 + 1 + 1, q6) :: (L + 1 + 1 + 1 + 1 + 1, q5) :: (L + 1 + 1 + 1 + 1, q4) :: (L + 1 + 1 + 1, o3) :: (L + 1 + 1, o2) :: (L + 1, o1) :: rest)))) := (.head _)
  have mm1 : (R, LCg.lst rvs) ∈ ((en, LCg.lst evs) :: (ownM ++ (ownL ++ ((R, LCg.lst rvs) :: (fi, LCg.lst fvs) :: (ga, LCg.lst gvs) :: (sz, listOf svs.toArray ksz) :: (L + 1 + 1 + 1 + 1 + 1 + 1, q6) :: (L + 1 + 1 + 1 + 1 + 1, q5) :: (L + 1 + 1 + 1 + 1, q4) :: (L + 1 + 1 + 1, o3) :: (L + 1 + 1, o2) :: (L + 1, o1) :: rest)))) := (.tail _ (List.mem_append_right _ (List.mem_append_right _ (by k_mem))))
  have mm2 : (L + 1 + 1 + 1 + 1 + 1, q5) ∈ ((en, LCg.lst evs) :: (ownM ++ (ownL ++ ((R, LCg.lst rvs) :: (fi, LCg.lst fvs) :: (ga, LCg.lst gvs) :: (sz, listOf svs.toArray ksz) :: (L + 1 + 1 + 1 + 1 + 1 + 1, q6) :: (L + 1 + 1 + 1 + 1 + 1, q5) :: (L + 1 + 1 + 1 + 1, q4) :: (L + 1 + 1 + 1, o3) :: (L + 1 + 1, o2) :: (L + 1, o1) :: rest)))) := (.tail _ (List.mem_append_right _ (List.mem_append_right _ (by k_mem))))
  have mm3 : (L + 1 + 1 + 1 + 1, q4) ∈ ((en, LCg.lst evs) :: (ownM ++ (ownL ++ ((R, LCg.lst rvs) :: (fi, LCg.lst fvs) :: (ga, LCg.lst gvs) :: (sz, listOf svs.toArray ksz) :: (L + 1 + 1 + 1 + 1 + 1 + 1, q6) :: (L + 1 + 1 + 1 + 1 + 1, q5) :: (L + 1 + 1 + 1 + 1, q4) :: (L + 1 + 1 + 1, o3) :: (L + 1 + 1, o2) :: (L + 1, o1) :: rest)))) := (.tail _ (List.mem_append_right _ (List.mem_append_right _ (by k_mem))))
  have kk0 : ∀ p ∈ ownM, p ∈ ((en, LCg.lst evs) :: (ownM ++ (ownL ++ ((R, LCg.lst rvs) :: (fi, LCg.lst fvs) :: (ga, LCg.lst gvs) :: (sz, listOf svs.toArray ksz) :: (L + 1 + 1 + 1 + 1 + 1 + 1, q6) :: (L + 1 + 1 + 1 + 1 + 1, q5) :: (L + 1 + 1 + 1 + 1, q4) :: (L + 1 + 1 + 1, o3) :: (L + 1 + 1, o2) :: (L + 1, o1) :: rest)))) := fun p hp => .tail _ (List.mem_append_left _ hp)
  have kk1 : ∀ p ∈ ownL, p ∈ ((en, LCg.lst evs) :: (ownM ++ (ownL ++ ((R, LCg.lst rvs) :: (fi, LCg.lst fvs) :: (ga, LCg.lst gvs) :: (sz, listOf svs.toArray ksz) :: (L + 1 + 1 + 1 + 1 + 1 + 1, q6) :: (L + 1 + 1 + 1 + 1 + 1, q5) :: (L + 1 + 1 + 1 + 1, q4) :: (L + 1 + 1 + 1, o3) :: (L + 1 + 1, o2) :: (L + 1, o1) :: rest)))) := fun p hp => .tail _ (List.mem_append_right _ (List.mem_append_left _ hp))
  generalize ((en, LCg.lst evs) :: (ownM ++ (ownL ++ ((R, LCg.lst rvs) :: (fi, LCg.lst fvs) :: (ga, LCg.lst gvs) :: (sz, listOf svs.toArray ksz) :: (L + 1 + 1 + 1 + 1 + 1 + 1, q6) :: (L + 1 + 1 + 1 + 1 + 1, q5) :: (L + 1 + 1 + 1 + 1, q4) :: (L + 1 + 1 + 1, o3) :: (L + 1 + 1, o2) :: (L + 1, o1) :: rest)))) = full at N hsuf mm0 mm1 mm2 mm3 kk0 kk1
  replace N := news_cons N mm3
  replace N := news_cons N (.tail _ mm2)
  replace N := news_cons N (.tail _ (.tail _ mm1))
  replace N := news_cons N (.tail _ (.tail _ (.tail _ mm0)))
  replace N := news_app N (fun p hp => .tail _ (.tail _ (.tail _ (.tail _ (kk1 p hp)))))
  replace N := news_app N (fun p hp => List.mem_append_right _ (.tail _ (.tail _ (.tail _ (.tail _ (kk0 p hp))))))
  clear mm0 mm1 mm2 mm3 kk0 kk1
  replace F := fr_pin F (x := Str.ofString "runs") (by exact pru)
  replace F := fr_pin F (x := Str.ofString "lead") (by exact pLe)
  replace F := fr_pin F (x := Str.ofString "moved") (by exact pMo)
  replace F := fr_pin F (x := Str.ofString "ends") (by exact pEn)
  obtain ⟨dL, tnL, tcL, lvs, tL1, tL2, uL2, tL3, uL3, tL4, tL5, ubL, sbL, rfl, hlvs⟩ := id hL
  obtain ⟨dM, tnM, tcM, mvs, tM1, tM2, uM2, tM3, uM3, tM4, tM5, ubM, sbM, rfl, hmvs⟩ := id hM
  simp only [List.cons_append, List.nil_append] at N
  k_steps
  refine Stop.go ?_
  (with_reducible rename Fr _ _ _ _ => F7)
  (with_reducible rename News _ _ _ _ => N7)
  refine LCg.CompSrc.ledger rfl F7 N7 (ax := R) (its := rvs.toArray) (k := rvs.length) (by k_mem) (by rw [sizeLine_eq, List.size_toArray, hrv.length, List.length_map]; omega) (fun g5 => ?_)
  refine kcf_list (fun k => (top : Int) - k) hrv ?_ ?_
  · intro z tz I7 oI7 C7 oC7 D7 m7 ys7 h7 tk7 E7 hz hC7 hx7 F8 N8 off7 ne7 mk7
    obtain ⟨z, hzn, rfl⟩ := List.mem_map.mp hz
    k_steps
  unfold KPfDone
  intro ys7 hys7 D7 h7 tk7 F8 N8 off7
  clear F7 N7
  k_steps
  refine Stop.go ?_
  have eM : List.map (fun k : Int => (top : Int) - k) (rs.map fun n : Nat => (n : Int)) = (rs.map (fun r => top - r)).map fun n : Nat => (n : Int) := by
    rw [List.map_map, List.map_map]
    refine List.map_congr_left fun a ha => ?_
    show (top : Int) - (a : Int) = ((top - a : Nat) : Int)
    rw [Int.ofNat_sub (htop2 a ha)]
  have em : ((mm : Int) + 1) = ((mm + 1 : Nat) : Int) := rfl
  rw [em]
  k_dflt (refine' mc_use (mc_lead D7 ys7.length ys7 (rs.map (fun r => top - r)) (mm + 1) _ (by rw [← eM]; exact hys7) (fun a ha => by obtain ⟨z, hz, rfl⟩ := List.mem_map.mp ha; exact Nat.le_trans (Nat.sub_le ..) (Nat.le_trans htop (by decide))) (by rw [List.length_map, hrl]; exact Nat.le_trans hm9 (by decide)) (Nat.succ_le_succ (Nat.le_trans hm9 (by decide)))) ?k1 ?k2 ?k3 ?k4 ?k5 ?k6 ?k7 ?k8 ?k9 ?_)
  (case k1 => k_asm)
  (case k2 => k_asm)
  (case k3 => k_asm)
  (case k4 => k_asm)
  (case k5 => k_asm)
  (case k6 => first | exact rfl | assumption)
  (case k7 => exact List.forall_mem_cons.mpr ⟨by k_mem, fun _ h => nomatch h⟩)
  (case k8 => first | ktr_room | decide)
  (case k9 => first | ktr_units | decide)
  k_whole
  rintro v own h9 tk9 hle9 ⟨oR, xR, txR, rfl, hR⟩ F9 N9
  rw [hσ] at hR
  obtain ⟨dR, tnR, tcR, Rvs, tR1, tR2, uR2, tR3, uR3, tR4, tR5, ubR, sbR, rfl, hRvs⟩ := id hR
  simp only [List.cons_append, List.nil_append] at N9
  clear F8 N8
  k_steps
  refine Stop.go ?_
  k_dflt (refine' mc_use (mc_equal xL xR txL txR σL σR oL oR _ _ hL hR lL lR) ?k1 ?k2 ?k3 ?k4 ?k5 ?k6 ?k7 ?k8 ?k9 ?_)
  (case k1 => k_asm)
  (case k2 => k_asm)
  (case k3 => k_asm)
  (case k4 => k_asm)
  (case k5 => k_asm)
  (case k6 => first | exact rfl | assumption)
  (case k7 => exact List.forall_mem_cons.mpr ⟨by k_mem, List.forall_mem_cons.mpr ⟨by k_mem, List.forall_mem_cons.mpr ⟨by k_mem, List.forall_mem_cons.mpr ⟨by k_mem, List.forall_mem_cons.mpr ⟨by k_mem, List.forall_mem_cons.mpr ⟨by k_mem, List.forall_mem_cons.mpr ⟨by k_mem, List.forall_mem_cons.mpr ⟨by k_mem, fun _ h => nomatch h⟩⟩⟩⟩⟩⟩⟩⟩)
  (case k8 => first | ktr_room | decide)
  (case k9 => first | ktr_units | decide)
  k_whole
  rintro v own h5 tk5 hle5 ⟨rfl, t5, rfl⟩ F5 N5
  simp only [List.nil_append] at N5
  rw [h1]
  k_steps
  · rename (_ = true) => hne
    exact absurd ((bne_len ens).symm.trans hne) Bool.false_ne_true
  · refine Stop.go ?_
    k_dflt (refine' mc_use (mc_equal xL xM txL txM σL σM oL oM _ _ hL hM lL lM) ?k1 ?k2 ?k3 ?k4 ?k5 ?k6 ?k7 ?k8 ?k9 ?_)
    (case k1 => k_asm)
    (case k2 => k_asm)
    (case k3 => k_asm)
    (case k4 => k_asm)
    (case k5 => k_asm)
    (case k6 => first | exact rfl | assumption)
    (case k7 => exact List.forall_mem_cons.mpr ⟨by k_mem, List.forall_mem_cons.mpr ⟨by k_mem, List.forall_mem_cons.mpr ⟨by k_mem, List.forall_mem_cons.mpr ⟨by k_mem, List.forall_mem_cons.mpr ⟨by k_mem, List.forall_mem_cons.mpr ⟨by k_mem, List.forall_mem_cons.mpr ⟨by k_mem, List.forall_mem_cons.mpr ⟨by k_mem, fun _ h => nomatch h⟩⟩⟩⟩⟩⟩⟩⟩)
    (case k8 => first | ktr_room | decide)
    (case k9 => first | ktr_units | decide)
    k_whole
    rintro v own h6 tk6 hle6 ⟨rfl, t6, rfl⟩ F6 N6
    simp only [List.nil_append] at N6
    rw [h2]
    k_steps
    (with_reducible rename Fr _ _ _ _ => F9)
    (with_reducible rename News _ _ _ _ => N9)
    exact done _ _ _ F9 (by first | rfl | assumption) (news_sub N9 fun p hp => by have hp := hsuf p hp; repeat (first | exact hp | refine .tail _ ?_))
end
end S_LW14
section S_LW15
section
variable {w : World} {base : Heap} {p : Program} {loose : List Str} {mean : ExcName → Option Value} {mg mb : Str → Option Value}
set_option maxHeartbeats 4000000
theorem fits_of {σ : Sg} (h : fits σ = true) : σ.2.2.2.length ≤ 1000 ∧ ∀ c ∈ σ.2.2.2, c ≤ 1000 := by
  unfold fits at h
  rw [Bool.and_eq_true] at h
  exact ⟨of_decide_eq_true h.1, fun c hc => of_decide_eq_true (List.all_eq_true.mp h.2 c hc)⟩
theorem ap_own {g h : Heap} {L : Addr} {x : Str} {tx : Tok} {σ : Sg} {o : Addr} {own l : List (Addr × Obj)} (hW : WsR w x tx σ o own) (N : News g L h l) (hs : ∀ p ∈ own, p ∈ l) {c1 c2 c3 c4 c5 c6 : Addr × Obj} {v1 v2 v3 v4 v5 v6 : Option Value}
    (m1 : c1 ∈ l) (m2 : c2 ∈ l) (m3 : c3 ∈ l) (m4 : c4 ∈ l) (m5 : c5 ∈ l) (m6 : c6 ∈ l) (k1 : c1.2.data = .cell v1) (k2 : c2.2.data = .cell v2) (k3 : c3.2.data = .cell v3) (k4 : c4.2.data = .cell v4) (k5 : c5.2.data = .cell v5) (k6 : c6.2.data = .cell v6) :
    ∀ p ∈ own, c1.1 ≠ p.1 ∧ c2.1 ≠ p.1 ∧ c3.1 ≠ p.1 ∧ c4.1 ≠ p.1 ∧ c5.1 ≠ p.1 ∧ c6.1 ≠ p.1 := by
  intro p hp
  have nc : ∀ v, p.2.data ≠ .cell v := by
    obtain ⟨d, tn, tc, vs, t1, t2, u2, t3, u3, t4, t5, ub, sb, rfl, _⟩ := hW
    rcases List.mem_cons.mp hp with rfl | hp
    · exact fun v e => nomatch e
    rcases List.mem_cons.mp hp with rfl | hp
    · exact fun v e => nomatch e
    rcases List.mem_cons.mp hp with rfl | hp
    · exact fun v e => nomatch e
    rcases List.mem_cons.mp hp with rfl | hp
    · exact fun v e => nomatch e
    exact nomatch hp
  have key : ∀ (c : Addr × Obj) (v : Option Value), c ∈ l → c.2.data = .cell v → c.1 ≠ p.1 := fun c v mc kc e => by
    have x := (N p (hs p hp)).1
    have y := (N c mc).1
    rw [← e, y] at x
    exact nc v (by rw [← Option.some.inj x]; exact kc)
  exact ⟨key _ _ m1 k1, key _ _ m2 k2, key _ _ m3 k3, key _ _ m4 k4, key _ _ m5 k5, key _ _ m6 k6⟩
section
variable {g h : Heap} {L : Addr} {a b c r : List (Addr × Obj)} {e : Addr × Obj}
theorem news_p3 (N : News g L h (a ++ (b ++ (c ++ r)))) : News g L h (c ++ (b ++ (a ++ r))) := news_sub N fun p hp => by
  simp only [List.mem_append] at hp ⊢
  rcases hp with hp | hp | hp | hp
  · exact .inr (.inr (.inl hp))
  · exact .inr (.inl hp)
  · exact .inl hp
  · exact .inr (.inr (.inr hp))
theorem news_p2 (N : News g L h (c ++ (b ++ r))) : News g L h (b ++ (c ++ r)) := news_sub N fun p hp => by
  simp only [List.mem_append] at hp ⊢
  rcases hp with hp | hp | hp
  · exact .inr (.inl hp)
  · exact .inl hp
  · exact .inr (.inr hp)
theorem news_p4 (he : e ∈ b) (N : News g L h (b ++ (c ++ r))) : News g L h (e :: (c ++ (b ++ r))) := news_sub N fun p hp => by
  rcases List.mem_cons.mp hp with rfl | hp
  · exact List.mem_append_left _ he
  · simp only [List.mem_append] at hp ⊢
    rcases hp with hp | hp | hp
    · exact .inr (.inl hp)
    · exact .inl hp
    · exact .inr (.inr hp)
theorem news_p5 (N : News g L h (e :: (c ++ (b ++ (a ++ r))))) : News g L h (e :: (a ++ (b ++ (c ++ r)))) := news_sub N fun p hp => by
  simp only [List.mem_cons, List.mem_append] at hp ⊢
  rcases hp with hp | hp | hp | hp | hp
  · exact .inl hp
  · exact .inr (.inr (.inr (.inl hp)))
  · exact .inr (.inr (.inl hp))
  · exact .inr (.inl hp)
  · exact .inr (.inr (.inr (.inr hp)))
end
theorem th_le {cnt : List Nat} (h : cnt.length ≤ 1000) : (thN cnt cnt.length).length ≤ 1000 ∧ ∀ a ∈ thN cnt cnt.length, a ≤ 1000 := by
  refine ⟨Nat.le_trans (List.length_filter_le ..) (by rw [List.length_range]; exact h), fun a ha => ?_⟩
  exact Nat.le_trans (Nat.le_of_lt (List.mem_range.mp (List.mem_filter.mp ha).1)) h
theorem turn_all (g : Heap) (L fa : Addr) (cd : Value) (o1 o2 o3 q4 q5 q6 : Obj) (s : Shared) (QT : Flow → Shared → Prop) (E1 : Value → Shared → Prop)
    (h : Heap) (tk : Nat) (m : Str → Option Value) (sz ga fi : Addr) (svs gvs fvs : List Value) (ksz : Nat) (mm : Nat) (tm : Tok) (rest : List (Addr × Obj))
    (B : Below callerA base [] g) (X : (KK w.params).In g) (T : Top p loose mean mg mb g)
    (h2 : 2 ≤ mm) (h9 : mm ≤ 9) (hrest : ∀ p ∈ rest, Ap L p.1) (w1 w5 w6 : Option Value)
    (d1 : o1.data = .cell w1) (d2 : o2.data = .cell (some (.ref sz))) (d3 : o3.data = .cell (some (.ref fi))) (e4 : q4.data = .cell (some (.int (mm : Int) tm))) (e5 : q5.data = .cell w5) (e6 : q6.data = .cell w6)
    (F : Fr g L h m) (pga : m (Str.ofString "gaps") = some (.ref ga)) (N : News g L h ((fi, LCg.lst fvs) :: (ga, LCg.lst gvs) :: (sz, listOf svs.toArray ksz) :: (L + 1 + 1 + 1 + 1 + 1 + 1, q6) :: (L + 1 + 1 + 1 + 1 + 1, q5) :: (L + 1 + 1 + 1 + 1, q4) :: (L + 1 + 1 + 1, o3) :: (L + 1 + 1, o2) :: (L + 1, o1) :: rest))
    (D : List Nat) (hf : IntsAre fvs (figOf D)) (hft : ∀ a t, Value.int a t ∈ fvs → t ≠ 0 ∧ t < tk) (hgv : IntsAre gvs ((gapsOf D).map fun n : Nat => (n : Int))) (hS : IntsAre svs (D.map fun n : Nat => (n : Int))) (hl : D.length = 3) (hb : ∀ a ∈ D, 2 ≤ a ∧ a ≤ 40)
    (ok : turnOk D mm = true) (a2 : Ap L sz) (a3 : Ap L ga) (a4 : Ap L fi)
    (done : ∀ h' tk' m' q5' q6' y5 y6, q5'.data = .cell y5 → q6'.data = .cell y6 → Fr g L h' m' → m' (Str.ofString "gaps") = some (.ref ga) → News g L h' ((fi, LCg.lst fvs) :: (ga, LCg.lst gvs) :: (sz, listOf svs.toArray ksz) :: (L + 1 + 1 + 1 + 1 + 1 + 1, q6') :: (L + 1 + 1 + 1 + 1 + 1, q5') :: (L + 1 + 1 + 1 + 1, q4) :: (L + 1 + 1 + 1, o3) :: (L + 1 + 1, o2) :: (L + 1, o1) :: rest) → QT .next { s with heap := h', toks := tk' }) :
    wpAny (model Challenge.rw_tl0059_01.row.prog w) (callerA.deeper (envOfC (Str.ofString "law") (fdS 23) L fa cd)) (execs (trB.drop 0) (envOfC (Str.ofString "law") (fdS 23) L fa cd)) QT
        (lawE w L fa cd E1) { s with heap := h, toks := tk } := by
  unfold turnOk at ok
  rw [Bool.and_eq_true] at ok
  obtain ⟨ones, ok⟩ := ok
  have h1 : ∀ j, j < mm → 1 ∈ pickI (figOf D) j mm := fun j hj => of_decide_eq_true (List.all_eq_true.mp ones j (List.mem_range.mpr hj))
  have hrl : (runsP (figOf D) mm mm).length = mm := by unfold runsP; rw [List.length_map, List.length_range]
  rw [← gapsF_eq] at ok
  refine turn_0 _ _ _ _ _ _ _ _ _ _ _ _ _ _ _ _ _ _ _ _ _ _ _ _ _ _ B X T h2 h9 hrest _ _ _ d1 d2 d3 e4 e5 e6 F pga N (figOf D) hf (by unfold figOf; rw [List.length_map, List.length_range]) (fun a t ha => ⟨?_, hft a t ha⟩) h1 a2 a3 a4 ?_
  · obtain ⟨j, hj⟩ := List.getElem?_of_mem ha
    obtain ⟨a', ta, e, ha'⟩ := hf.at j _ hj
    cases e
    exact figOf_bit D _ (List.mem_of_getElem? ha')
  clear ones h1 F N pga
  intro h' tk' m' R rvs F pga pru N hrv aR
  generalize runsP (figOf D) mm mm = rs at hrv hrl ok
  unfold lookR at ok
  generalize rs.foldl max 0 = top at ok
  unfold lookA lookB at ok
  simp only [Bool.and_eq_true, decide_eq_true_eq] at ok
  obtain ⟨⟨⟨⟨⟨⟨⟨⟨⟨⟨⟨⟨⟨⟨⟨⟨g30, g0⟩, t1⟩, t2⟩, t3⟩, fL⟩, fM⟩, fS⟩, fR⟩, x1⟩, x2⟩, x3⟩, x4⟩, x5⟩, x6⟩, x7⟩, x8⟩ := ok
  have t2 : ∀ a ∈ rs, a ≤ top := fun a ha => of_decide_eq_true (List.all_eq_true.mp t2 a ha)
  have hrb : ∀ a ∈ rs, a ≤ 39 := fun a ha => Nat.le_trans (t2 a ha) t3
  replace fL := fits_of fL
  replace fM := fits_of fM
  replace fS := fits_of fS
  replace fR := fits_of fR
  refine turn_1 _ _ _ _ _ _ _ _ _ _ _ _ _ _ _ _ _ _ _ _ _ _ _ _ _ _ B X T h2 h9 hrest _ _ _ d1 d2 d3 e4 e5 e6 R rvs rs (gapsOf D) top F pga pru N hrv hgv hrl hrb g30 t1 t2 aR a2 a3 a4 ?_
  clear F N pga pru e5 h' tk' m'
  rintro h' tk' m' q5' t5 F pga pru ⟨tc, pco⟩ N e5
  refine turn_2 _ _ _ _ _ _ _ _ _ _ _ _ _ _ _ _ _ _ _ _ _ _ _ _ _ _ B X T h2 h9 hrest _ _ _ d1 d2 d3 e4 e5 e6 R rvs rs (gapsOf D) _ _ F pga pru pco N hrv hgv hrl hrb g30 aR a2 a3 a4 ?_
  clear F N pga pru pco h' tk' m'
  intro h' tk' m' oL oM xL xM txL txM ownL ownM hL hM F pga pru pco ple pmo N
  have apL := ap_own hL N (fun p hp => List.mem_append_right _ (List.mem_append_left _ hp)) (c1 := (L + 1, o1)) (c2 := (L + 1 + 1, o2)) (c3 := (L + 1 + 1 + 1, o3)) (c4 := (L + 1 + 1 + 1 + 1, q4)) (c5 := (L + 1 + 1 + 1 + 1 + 1, q5')) (c6 := (L + 1 + 1 + 1 + 1 + 1 + 1, q6))
    (List.mem_append_right _ (List.mem_append_right _ (by k_mem))) (List.mem_append_right _ (List.mem_append_right _ (by k_mem))) (List.mem_append_right _ (List.mem_append_right _ (by k_mem))) (List.mem_append_right _ (List.mem_append_right _ (by k_mem))) (List.mem_append_right _ (List.mem_append_right _ (by k_mem))) (List.mem_append_right _ (List.mem_append_right _ (by k_mem))) d1 d2 d3 e4 e5 e6
  have apM := ap_own hM N (fun p hp => List.mem_append_left _ hp) (c1 := (L + 1, o1)) (c2 := (L + 1 + 1, o2)) (c3 := (L + 1 + 1 + 1, o3)) (c4 := (L + 1 + 1 + 1 + 1, q4)) (c5 := (L + 1 + 1 + 1 + 1 + 1, q5')) (c6 := (L + 1 + 1 + 1 + 1 + 1 + 1, q6))
    (List.mem_append_right _ (List.mem_append_right _ (by k_mem))) (List.mem_append_right _ (List.mem_append_right _ (by k_mem))) (List.mem_append_right _ (List.mem_append_right _ (by k_mem))) (List.mem_append_right _ (List.mem_append_right _ (by k_mem))) (List.mem_append_right _ (List.mem_append_right _ (by k_mem))) (List.mem_append_right _ (List.mem_append_right _ (by k_mem))) d1 d2 d3 e4 e5 e6
  have hrest2 : ∀ p ∈ ownM ++ rest, Ap L p.1 := fun p hp => (List.mem_append.mp hp).elim (apM p) (hrest p)
  have hrest3 : ∀ p ∈ ownL ++ (ownM ++ rest), Ap L p.1 := fun p hp => (List.mem_append.mp hp).elim (apL p) (hrest2 p)
  clear apL apM
  refine turn_3 _ _ _ _ _ _ _ _ _ _ _ _ _ _ _ _ _ _ _ _ _ _ _ _ _ _ B X T h2 h9 hrest _ _ _ d1 d2 d3 e4 e5 e6 R oL oM rvs (gapsOf D) _ _ xL xM txL txM _ _ ownL ownM F pga pru pco ple pmo N hL hM fL.1 fM.1 fL.2 fM.2 hgv g30 g0 x1 x2 x3 aR a2 a3 a4 ?_
  clear F N pga pru pco ple pmo h' tk' m' x1 x2 x3
  intro h' tk' m' F pga pru pco ple pmo N
  replace N := news_p3 (c := [_, _, _, _, _, _, _, _, _, _]) N
  refine turn_4 _ _ _ _ _ _ _ _ _ _ _ _ _ _ _ _ _ _ _ _ _ _ _ _ _ _ B X T h2 h9 hrest3 _ _ _ d1 d2 d3 e4 e5 e6 R oL oM rvs rs (gapsOf D) _ _ F pga pru pco ple pmo N hrv hgv hrl hrb g30 _ rfl fS.1 fS.2 x4 x5 aR a2 a3 a4 ?_
  clear F N pga pru pco ple pmo h' tk' m' x4 x5 fS
  intro h' tk' m' F pga pru pco ple pmo N
  replace N := news_p2 (c := [_, _, _, _, _, _, _, _, _, _]) N
  refine turn_5 _ _ _ _ _ _ _ _ _ _ _ _ _ _ _ _ _ _ _ _ _ _ _ _ _ _ B X T h2 h9 hrest2 _ _ _ d1 d2 d3 e4 e5 e6 R oL oM rvs rs (gapsOf D) _ _ xL txL _ ownL F pga pru pco ple pmo N hL fL.1 fL.2 hgv g30 aR a2 a3 a4 x6 ?_
  clear F N pga pru pco ple pmo h' tk' m' x6
  intro h' tk' m' tc cvs F pga pru pco ple pmo pct N hcv htc
  replace N := news_p4 (c := [_, _, _, _, _, _, _, _, _, _]) htc N
  refine turn_6 _ _ _ _ _ _ _ _ _ _ _ _ _ _ _ _ _ _ _ _ _ _ _ _ _ _ B X T h2 h9 hrest3 _ _ _ d1 d2 d3 e4 e5 e6 R oL oM tc rvs cvs rs (gapsOf D) _ _ _ F pga pru pco ple pmo pct N hcv fL.1 fL.2 aR a2 a3 a4 ?_
  clear F N pga pru pco ple pmo pct htc hcv e6 h' tk' m'
  intro h' tk' m' th tvs q6' F pga pru pco ple pmo N e6 htv aTh
  replace N := drop2 N
  have tl := th_le fL.1
  refine turn_7 _ _ _ _ _ _ _ _ _ _ _ _ _ _ _ _ _ _ _ _ _ _ _ _ _ _ B X T h2 h9 hrest3 th _ _ d1 d2 d3 e4 e5 e6 R oL oM rvs tvs D _ _ _ F pga pru pco ple pmo N htv hS hl tl.1 tl.2 hb aR a2 a3 a4 aTh ?_
  clear F N pga pru pco ple pmo h' tk' m'
  intro h' tk' m' en evs F pga pru pco ple pmo pen N hev
  replace N := news_p5 (c := [_, _, _, _, _, _, _, _, _, _]) N
  exact turn_8 _ _ _ _ _ _ _ _ _ _ _ _ _ _ _ _ _ _ _ _ _ _ _ _ _ _ B X T h2 h9 hrest top t5 _ _ d1 d2 d3 e4 e5 e6 R oL oM en rvs evs rs _ _ _ xL xM txL txM _ _ _ ownL ownM F pga pru pco ple pmo pen N hL hM fL.1 fM.1 rfl fR.1 hrv hrl hrb t3 t2 hev (Nat.le_trans (List.length_filter_le ..) tl.1) x7 x8 fun h' tk' m' F pga N => done h' tk' m' q5' q6' _ _ e5 e6 F pga N
end
end S_LW15
section S_LW16
section
variable {w : World} {base : Heap} {p : Program} {loose : List Str} {mean : ExcName → Option Value} {mg mb : Str → Option Value}
set_option maxHeartbeats 4000000
theorem law_all (g : Heap) (L fa : Addr) (cd : Value) (h : Heap) (tk : Nat) (m : Str → Option Value) (o1 o2 o3 o4 o5 o6 : Obj) (l : Addr) (vs : List Value) (xs : List Int) (s : Shared) (QK : Flow → Shared → Prop) (E1 : Value → Shared → Prop)
    (B : Below callerA base [] g) (F : Fr g L h m) (hm : m (Str.ofString "script") = some (.ref l))
    (N : News g L h [(L + 1 + 1 + 1 + 1 + 1 + 1, o6), (L + 1 + 1 + 1 + 1 + 1, o5), (L + 1 + 1 + 1 + 1, o4), (L + 1 + 1 + 1, o3), (L + 1 + 1, o2), (L + 1, o1)])
    (d1 : ∃ v, o1.data = .cell v) (d2 : ∃ v, o2.data = .cell v) (d3 : ∃ v, o3.data = .cell v) (d4 : ∃ v, o4.data = .cell v) (d5 : ∃ v, o5.data = .cell v) (d6 : ∃ v, o6.data = .cell v)
    (X : (KK w.params).In g) (T : Top p loose mean mg mb g) (hL : g.IsList l vs.toArray) (hi : IntsAre vs xs) (hlen : xs.length ≤ 63)
    (fin : ∀ h' tk' m', Fr g L h' m' → QK (.ret (.bool true)) { s with heap := h', toks := tk' }) :
    wpAny (model Challenge.rw_tl0059_01.row.prog w) (callerA.deeper (envOfC (Str.ofString "law") (fdS 23) L fa cd)) (execs (fdB 23) (envOfC (Str.ofString "law") (fdS 23) L fa cd)) QK
      (lawE w L fa cd E1) { s with heap := h, toks := tk } := by
  refine law_1 g L fa cd h tk m o1 o2 o3 o4 o5 o6 l vs xs s QK E1 B F hm N d1 d2 d3 d4 d5 d6 X T hL hi hlen ?_
  obtain ⟨v1, d1⟩ := d1
  obtain ⟨v2, d2⟩ := d2
  obtain ⟨v3, d3⟩ := d3
  obtain ⟨v4, d4⟩ := d4
  obtain ⟨v5, d5⟩ := d5
  obtain ⟨v6, d6⟩ := d6
  clear F hm N
  intro h tk m ro r1 r0 ki be un ca bvs uvs us v0 v1 v2 k k0 k1 k2 k3 c0 c1 c2 F pro pki pbe pun pca N i0 i1 i2 ib iu ic b0 b1 b2 b3 hc0 hc1 l1 l2 l3 l4 l5 l6 l7
  have ok := ok_due k0 k1 k2 k3 b0 b1 b2 b3
  refine law_2 g L fa cd o1 o2 o3 o4 o5 o6 s QK E1 h tk m ro r1 r0 ki be un ca bvs uvs us v0 v1 v2 k k0 k1 k2 k3 c0 c1 c2 B X T _ _ _ _ _ _ d1 d2 d3 d4 d5 d6 F pro pki pbe pun pca N i0 i1 i2 b0 b1 b2 b3 l1 l2 l3 l4 l5 l6 l7 ?_
  clear F pro pki pbe pun pca N i0 i1 i2 l1 l2 l3 l4 l5 l6 l7 d1
  intro h tk m du ro r2 r1 r0 dvs v0 v1 v2 kd o1' F pro pbe pun pca N d1 hD i0 i1 i2 a1 a2 a3 a4 a5 a6 a7 a8
  have q0 : ∀ k ∈ [k0, k1], k < 9 := by simp [b0, b1]
  have q1 : ∀ k ∈ [k0, k1, k2], k < 9 := by simp [b0, b1, b2]
  have q2 : ∀ k ∈ row2Of k0 k1 k2 k3, k < 9 := by unfold row2Of; split <;> simp [b0, b1, b2, b3]
  have q3 : (row2Of k0 k1 k2 k3).length ≤ 5 := by unfold row2Of; split <;> simp
  refine law_3 g L fa cd o1' o2 o3 o4 o5 o6 s QK E1 h tk m du ro r2 r1 r0 be un ca dvs bvs uvs us v0 v1 v2 k kd [k0, k1] [k0, k1, k2] (row2Of k0 k1 k2 k3) c0 c1 c2 B X T _ _ _ _ _ d1 d2 d3 d4 d5 d6 F pro pbe pun pca N i0 i1 i2 ib iu ic hc0 hc1 q0 q1 q2 (by decide : 2 ≤ 5) (by decide : 3 ≤ 5) q3 a1 a2 a3 a4 a5 a6 a7 a8 ?_
  clear F pro pbe pun pca N i0 i1 i2 ib iu ic hc0 hc1 q0 q1 q2 q3 a2 a3 a4 a5 a6 a7 a8 b0 b1 b2 b3 d2
  intro h tk m sz svs ksz o2' F N d2 hS a2
  replace hS : IntsAre svs ((dueOf k0 k1 k2 k3).map fun n : Nat => (n : Int)) := hS
  have hl : (dueOf k0 k1 k2 k3).length = 3 := rfl
  generalize dueOf k0 k1 k2 k3 = D at *
  unfold okD at ok
  rw [Bool.and_eq_true, Bool.and_eq_true, ← gapsF_eq] at ok
  have hb : ∀ a ∈ D, 2 ≤ a ∧ a ≤ 40 := fun a ha => by
    have z := List.all_eq_true.mp ok.1.2 a ha
    rw [Bool.and_eq_true] at z
    exact ⟨of_decide_eq_true z.1, of_decide_eq_true z.2⟩
  refine law_4 g L fa cd o1' o2' o3 o4 o5 o6 s QK E1 h tk m du sz dvs svs kd ksz D B X T _ _ _ _ d1 d2 d3 d4 d5 d6 F N hD hS (Nat.le_of_eq hl) hb (of_decide_eq_true ok.1.1) a1 a2 ?_
  clear F N d3
  intro h tk m ga fi gvs fvs o3' F pga N d3 hgv hf hft a3 a4
  refine law_5 g L fa cd o1' o2' o3' o4 o5 o6 s QK E1 h tk m du sz ga fi dvs svs gvs fvs kd ksz D _ _ _ d1 d2 d3 d4 d5 d6 B X T F pga N hD hl a1 a2 a3 a4 ?_ fin
  clear F N pga
  intro mm tm h tk' m q4 q5 q6 z5 z6 rest QT hmm hle e4 e5 e6 F pga N hrest done
  have z := List.all_eq_true.mp ok.2 mm hmm
  rw [Bool.and_eq_true] at z
  exact turn_all g L fa cd o1' o2' o3' q4 q5 q6 s QT E1 h tk' m sz ga fi svs gvs fvs ksz mm tm rest B X T (hb mm (List.mem_of_mem_take hmm)).1 (of_decide_eq_true z.1) hrest _ _ _ d1 d2 d3 e4 e5 e6 F pga N D hf (fun a t ha => ⟨(hft a t ha).1, Nat.lt_of_lt_of_le (hft a t ha).2 hle⟩) hgv hS hl hb z.2 a2 a3 a4 done
end
end S_LW16
theorem saidX : Challenge.rw_tl0059_01.wellSaid = true := by
  rw [PySem.W.Fast.te9446332074065402090]
  kernel_rfl
end Mine
open PySem PySem.W PyProof.Rows PySem.Spec PySem.Calls
set_option maxHeartbeats 8000000 in
theorem PySem.Challenge.cw_tl0059_01_holds : PySem.Challenge.rw_tl0059_01.Holds := by
  w_on
  refine holds_law Mine.saidX fun said => ?_
  refine PySem.W.holds_open (q := Mine.QQ) (loose := Mine.LL) (Xt := Mine.XT) (XP := XL Mine.QQ []) (Yf := Mine.HK.obs) (Ya := Mine.HK.val) (YP := Mine.HK.says) (N := 40000) Mine.leftT (Hook.of Mine.HK) (Hook.keeps Mine.HK) (fun s e => xl_of s (Bool.and_eq_true_iff.mp e).1) XL.keeps (by rfl) (by rfl) (by rfl) (fun s e => recFacts_of (Bool.and_eq_true_iff.mp e).2) (by rfl) said (by decide +kernel) ⟨rfl, rfl, rfl, rfl, rfl, by decide +kernel⟩ ?hw ?hc
  case hw => w_witness2
  case hc =>
    intro w s₀ s₁ mg mb G Y fa o pm cd doc dV kV ho hd hcd hD hmg hg args vals as hpre hlay hrd hwl hlo
    have KX := kIn_of Y
    have X := (Ground.X G).1
    have V := (Ground.X G).2
    refine Ground.open G ?_
    intro T B D TE TW
    refine guard_noD D (by decide +kernel) ?_
    clear D
    obtain ⟨_, _, M⟩ := bmod_of_top T
    have TA := at_of_top T
    obtain ⟨_, _, he, B0⟩ := based_of_top T rfl hmg ho hd
    have he' : cd = _ := he
    subst he'
    clear he hmg
    wrow_args hpre hlay hrd hwl hlo
    refine enter_call ?_
    w_top on
    try refine codeAny_mono ?_ (fun _ _ g => GoodW.toG g)
    have K0 := below_caller (Top.heap T)
    w_call any ho hd hcd hD T F
    clear hd TA
    k_drop
    (with_reducible rename Fr _ _ _ _ => F0)
    (with_reducible rename News _ _ _ _ => N0)
    (with_reducible rename Below _ _ _ _ => K0)
    (with_reducible rename Top _ _ _ _ _ _ => T0)
    (with_reducible rename IntsAre _ _ => hI)
    (with_reducible rename Heap.IsList _ _ _ => hL)
    (rename (¬ ((63 : Nat) : Int) < _) => hlen)
    refine Mine.law_all _ _ _ _ _ _ _ _ _ _ _ _ _ _ _ _ _ _ _ K0 F0 ?hm N0 ⟨_, by assumption⟩ ⟨_, by assumption⟩ ⟨_, by assumption⟩ ⟨_, by assumption⟩ ⟨_, by assumption⟩ ⟨_, by assumption⟩ KX T0 hL hI ?hlen ?fin
    case hm => rfl
    case hlen => exact Int.ofNat_le.mp (Int.not_lt.mp hlen)
    case fin =>
      intro h' tk' m' F
      refine goodW_bool F hg (raisesW_false ?_) ?_
      · wrow_none_raised
      · wrow_post
