import PyProof.Rows.All
import Wide.All
import OpenK.AllK
import Wide.FinOn
import PySem.Challenge.RW_ev0023_01
set_option Elab.async false
section
open PySem PySem.W PyProof.Rows
set_option Elab.async false
set_option maxRecDepth 100000
set_option maxHeartbeats 8000000
namespace Mine
open_top hd for PySem.Challenge.rw_ev0023_01
end Mine
end

section
open PySem PySem.W PyProof.Rows PySem.Calls PySem.Builtin.Str PySem.StrLaws
set_option Elab.async false
set_option maxRecDepth 100000
namespace Mine
def KS (m : Str → Option Value) (l : List (Str × Value)) : Prop := ∀ p ∈ l, m p.1 = some p.2
theorem ks_nil {m : Str → Option Value} : KS m [] := fun _ hp => (List.not_mem_nil hp).elim
theorem ks_cons {m : Str → Option Value} {a : Str} {v : Value} {l : List (Str × Value)} (h : m a = some v) (t : KS m l) : KS m ((a, v) :: l) := fun p hp => by
  rcases List.mem_cons.mp hp with rfl | hp
  · exact h
  · exact t p hp

abbrev Ar (d u : Nat) (gd : Option (List Code)) (outer : List Env) : Around := { handled := none, depth := d, frames := some outer, guards := gd, units := u }

theorem wpAny_ctx {α : Type} {M : Model} {A A' : Around} {t : Sem α} {Q : α → Shared → Prop} {E : Value → Shared → Prop} {s : Shared}
    (h : wpAny M A' t Q E s) (h1 : A.handled = A'.handled) (h2 : A.depth ≤ A'.depth) (h3 : A.frames = A'.frames) (h4 : A.guards = A'.guards) (h5 : A.units ≤ A'.units) : wpAny M A t Q E s :=
  fun Γ p hΓ => h Γ p ⟨hΓ.1.trans h1, Nat.le_trans hΓ.2.1 h2, fun l hl => hΓ.2.2.1 l (h3.trans hl), fun g hg => hΓ.2.2.2.1 g (h4.trans hg), Nat.le_trans hΓ.2.2.2.2 h5⟩

theorem codeAny_ctx {M : Model} {A A' : Around} {c : Code} {R : Result → Shared → Prop} {s : Shared}
    (h : codeAny M A' c R s) (h1 : A.handled = A'.handled) (h2 : A.depth ≤ A'.depth) (h3 : A.frames = A'.frames) (h4 : A.guards = A'.guards) (h5 : A.units ≤ A'.units) : codeAny M A c R s :=
  fun Γ p hc hΓ => h Γ p hc ⟨hΓ.1.trans h1, Nat.le_trans hΓ.2.1 h2, fun l hl => hΓ.2.2.1 l (h3.trans hl), fun g hg => hΓ.2.2.2.1 g (h4.trans hg), Nat.le_trans hΓ.2.2.2.2 h5⟩

abbrev Keeps (h h' : Heap) : Prop := ∀ b o, h.get? b = some o → h'.get? b = some o

section
variable {prog : Program} {w : World} {A : Around} {s : Shared} {base : Heap} {outer : List Env} {K : Frag} {p : Program} {loose : List Str} {mean : ExcName → Option Value} {mg mb : Str → Option Value}
  {R : Result → Shared → Prop} {name qual : Str} {params : Arguments} {body : List Stmt} {scope : Scope} {cl : List (Str × Addr)} {dV kV doc pm cdv ct oc : Value} {an od : Option Addr} {osl : Array (Option Value)} {f : Addr} {args : Args} {binds : List (Str × Value)}

theorem enter_def (B : Below A base outer s.heap) (X : K.In s.heap) (T : Top p loose mean mg mb s.heap)
    (ho : K.lookup f = some ⟨oc, od, .func (fnOf name qual params body scope dV kV doc pm an cdv ct), osl⟩) (hcd : codeIn K cdv qual = true) (hroom : A.depth < recursionLimit)
    (hbind : BindsTo s (fnOf name qual params body scope dV kV doc pm an cdv ct) args binds) (hloc : ∀ y ∈ binds, scope.names.lookup y.1 = some .local)
    (h : ∀ g L' h₁, g = s.heap → Fr g L' h₁ (fun y => binds.reverse.lookup y) → News g L' h₁ [] → Below A base outer g → K.In g → Top p loose mean mg mb g → L' = g.objs.size →
      wpAny (model prog w) (A.deeper (envOf qual scope L' f cdv)) (execs body (envOf qual scope L' f cdv))
        (fun fl s' => R (.ok (.ret (match fl with | .ret v => v | _ => .none))) s')
        (fun e s' => wpAny (model prog w) (A.deeper (envOf qual scope L' f cdv)) (leaving (envOf qual scope L' f cdv) e) (fun _ s'' => R (.error e) s'') (fun e' s'' => R (.error e') s'') s')
        { s with heap := h₁, toks := s.toks + binds.length })
    (hcell : ∀ x ∈ scope.names, x.2 ≠ .cell) (hco : scope.isCoroutine = false := by rfl) (hgen : scope.isGenerator = false := by rfl) (hk : scope.kind = .function := by rfl) : codeAny (model prog w) A (.call (.ref f) args) R s := by
  refine codeAny_call_def (fd := fnOf name qual params body scope dV kV doc pm an cdv ct) (body := body) (binds := binds) hroom (X _ _ ho) rfl T.nolimit (codeRec_of X hcd) rfl hbind hcell hloc (fun h₁ hns hk₁ => ?_) hco hgen hk
  exact h _ _ h₁ rfl ⟨hns, hk₁, Nat.le_refl _⟩ (fun p hp => nomatch hp) B X T rfl
end

section
variable {prog : Program} {w : World} {A : Around} {E : Value → Shared → Prop} {Q : Flow → Shared → Prop} {s : Shared} {env : Env} {h₀ : Heap} {L : Addr}
def WPost {σ : Type} (h₀ : Heap) (L : Addr) (s : Shared) (ps : σ → List (Str × Value)) (Led : σ → List (Addr × Obj)) (P : σ → Prop) (μ : σ → Nat) (Q : Flow → Shared → Prop) (c : σ) (f : Flow) (s₂ : Shared) : Prop :=
  match f with
  | .ret v => Q (.ret v) s₂
  | .brk => Q .next s₂
  | _ => ∃ (c' : σ) (h' : Heap) (tk : Nat) (m' : Str → Option Value) (news' : List (Addr × Obj)), s₂ = { s with heap := h', toks := tk } ∧ Fr h₀ L h' m' ∧ News h₀ L h' news' ∧ (∀ p ∈ Led c', p ∈ news') ∧ (∀ p ∈ ps c', m' p.1 = some p.2) ∧ P c' ∧ μ c' < μ c
theorem while_my {σ : Type} {test : Expr} {body : List Stmt} {pos : Pos} {m₀ : Str → Option Value} {news₀ : List (Addr × Obj)} (ps : σ → List (Str × Value)) (Led : σ → List (Addr × Obj)) (P : σ → Prop) (μ : σ → Nat) (c₀ : σ)
    (F : Fr h₀ L s.heap m₀) (N : News h₀ L s.heap news₀) (hN : ∀ p ∈ Led c₀, p ∈ news₀) (hk : KS m₀ (ps c₀)) (hp : P c₀)
    (turn : ∀ (c : σ) (u : Str → Option Value) h tk, P c → Fr h₀ L h (kstB u (ps c)) → News h₀ L h (Led c) →
      wpAny (model prog w) A (isTrue test env (eval test env)) (fun b s₂ =>
        if b = true then wpAny (model prog w) A (execs body env) (WPost h₀ L s ps Led P μ Q c) E s₂ else Q .next s₂) E { s with heap := h, toks := tk })
    (hE : PassesOwn (model prog w) A env E := by passes_own) :
    wpAny (model prog w) A (exec (.While test body [] pos) env) Q E s := by
  refine While_inv2 (fun n m nx => ∃ c : σ, (∀ p ∈ Led c, p ∈ nx) ∧ μ c = n ∧ (∀ p ∈ ps c, m p.1 = some p.2) ∧ P c) F N ⟨c₀, hN, rfl, hk, hp⟩ ?_ hE
  rintro n m₁ nx h tk F₁ N₁ ⟨c, hnx, hsz, h1, hp'⟩
  rw [← hsz]
  have em : kstB m₁ (ps c) = m₁ := by
    funext y
    exact kstB_eq h1 fun _ => rfl
  refine wpAny_mono (turn c m₁ h tk hp' (by rw [em]; exact F₁) (fun p hp => N₁ p (hnx p hp))) (fun b s₂ p => ?_) fun _ _ x => x
  cases b with
  | false => simpa using p
  | true =>
    simp only [if_true] at p ⊢
    refine wpAny_mono p (fun f s₃ q => ?_) fun _ _ x => x
    cases f with
    | ret v => exact q
    | brk => exact q
    | next =>
      obtain ⟨c', h', tk', m', news', rfl, F', N', hn, hk9, hp9, hm9⟩ := q
      exact ⟨h', tk', m', news', μ c', rfl, F', N', hm9, c', hn, rfl, hk9, hp9⟩
    | cont =>
      obtain ⟨c', h', tk', m', news', rfl, F', N', hn, hk9, hp9, hm9⟩ := q
      exact ⟨h', tk', m', news', μ c', rfl, F', N', hm9, c', hn, rfl, hk9, hp9⟩
end
end Mine
namespace Mine
def Held (P : Prop) : Prop := P
theorem Held.out {P : Prop} (h : Held P) : P := h
end Mine
namespace Mine
abbrev LO : List Str := [Str.ofString "errmsg", Str.ofString "JSONDecodeError", Str.ofString "BACKSLASH", Str.ofString "py_scanstring"]
/-- the world around a call: the written part and the top's facts at the ground, the frames below -/
structure Cx (w : World) (mean : ExcName → Option Value) (mg mb : Str → Option Value) (base : Heap) (outer : List Env) (h : Heap) : Prop where
  stays : base.StaysIn h
  frames : h.FunFrames base outer
  X : (hd.heap_39 w.params).In base
  T : Top hd.view_39 (looseW hd.view_39 [Str.ofString "errmsg", Str.ofString "JSONDecodeError", Str.ofString "BACKSLASH", Str.ofString "py_scanstring"]) mean mg mb base
theorem Cx.below {w mean mg mb base outer h} (C : Cx w mean mg mb base outer h) (n : Nat) (gd : Option (List Code)) : Below (Ar n n gd outer) base outer h := ⟨rfl, C.stays, C.frames⟩
theorem Cx.XH {w mean mg mb base outer h} (C : Cx w mean mg mb base outer h) : (hd.heap_39 w.params).In h := C.X.keeps C.stays
theorem Cx.TH {w mean mg mb base outer h} (C : Cx w mean mg mb base outer h) : Top hd.view_39 (looseW hd.view_39 [Str.ofString "errmsg", Str.ofString "JSONDecodeError", Str.ofString "BACKSLASH", Str.ofString "py_scanstring"]) mean mg mb h := C.T.keeps C.stays
theorem Cx.deeper {w mean mg mb base outer g L h m env} (C : Cx w mean mg mb base outer g) (F : Fr g L h m) (hf : env.frame = some L) (hk : env.scope.kind = .function) : Cx w mean mg mb base (env :: outer) h :=
  have B := pushX (C.below 0 none) F hf hk
  ⟨B.stays, B.frames, C.X, C.T⟩
end Mine
namespace Mine
abbrev tupOf (vs : List Value) : Obj := { cls := .type "tuple", data := .seq vs.toArray }
theorem news_new {g h h' : Heap} {L D : Addr} {m : Str → Option Value} {news : List (Addr × Obj)} {o : Obj} (F : Fr g L h m) (N : News g L h news) (hk : Keeps h h') (hD : h.get? D = none) (hD' : h'.get? D = some o) :
    News g L h' ((D, o) :: news) ∧ ∀ p ∈ news, p.1 ≠ D := by
  have e : ∀ b o', h.get? b = some o' → b ≠ D := fun b o' hb q => by rw [q, hD] at hb; cases hb
  refine ⟨fun p hp => ?_, fun p hp => e _ _ (N p hp).1⟩
  rcases List.mem_cons.mp hp with rfl | hp
  · obtain ⟨oL, _, _, hL, _⟩ := F.ns
    refine ⟨hD', (e _ _ hL).symm, ?_⟩
    cases q : g.get? D with
    | none => rfl
    | some o' => exact absurd rfl (e _ _ (F.keep _ _ q))
  · exact ⟨hk _ _ (N p hp).1, (N p hp).2⟩

section
variable {prog : Program} {w : World} {A : Around} {E : Value → Shared → Prop} {s : Shared} {x y : Str} {t u : Tok} {Q : Value → Shared → Prop}
theorem call_rindex {i : Nat} (ho : lastOccurrence x y 0 x.length = some i) (hq : Q (.int i s.toks) { s with toks := s.toks + 1 }) :
    wpAny (model prog w) A (call (.builtin "str.rindex") [.str x t, .str y u]) Q E s :=
  call_gives F.slot_str_rindex (typeIs_str _ _ _) F.entry_str_rindex (F.args_str_rindex_2 _ _) (gives_str_rindex x y t u i ho) hq
end
theorem last_of_count {x y : Str} (h : Txt.count x y ≠ 0) : ∃ i, lastOccurrence x y 0 x.length = some i ∧ i ≤ x.length := by
  rcases last_spec x y with ⟨_, hn⟩ | ⟨i, hi, ha, _⟩
  · exfalso
    apply h
    unfold Txt.count
    rcases occ_head x y (x.length + 1) (by omega) with ⟨h0, _⟩ | ⟨i, r, _, ha, _⟩
    · rw [h0]; rfl
    · exact absurd ha (hn i)
  · exact ⟨i, hi, by have := ha.1; omega⟩
theorem call_rindex_count {prog : Program} {w : World} {A : Around} {E : Value → Shared → Prop} {s : Shared} {x y : Str} {t u : Tok} {Q : Value → Shared → Prop} (h : Txt.count x y + 1 ≠ 1)
    (hq : ∀ i : Nat, i ≤ x.length → Q (.int i s.toks) { s with toks := s.toks + 1 }) :
    wpAny (model prog w) A (call (.builtin "str.rindex") [.str x t, .str y u]) Q E s := by
  obtain ⟨i, hi, hi'⟩ := last_of_count (x := x) (y := y) (by omega)
  exact call_rindex hi (hq i hi')
theorem no_led {news : List (Addr × Obj)} : ∀ p ∈ ([] : List (Addr × Obj)), p ∈ news := fun _ hp => (List.not_mem_nil hp).elim
theorem one_led {a : Addr × Obj} {news : List (Addr × Obj)} (h : a ∈ news) : ∀ p ∈ [a], p ∈ news := fun p hp => by
  rw [List.mem_singleton] at hp
  rw [hp]; exact h
theorem WPost.turn {σ : Type} {h₀ : Heap} {L : Addr} {s : Shared} {ps : σ → List (Str × Value)} {Led : σ → List (Addr × Obj)} {P : σ → Prop} {μ : σ → Nat} {Q : Flow → Shared → Prop} {c : σ} (c' : σ) {h' : Heap} {tk : Nat} {m' : Str → Option Value} {news' : List (Addr × Obj)}
    (F : Fr h₀ L h' m') (N : News h₀ L h' news') (hl : ∀ p ∈ Led c', p ∈ news') (hk : KS m' (ps c')) (hp : P c') (hm : μ c' < μ c) : WPost h₀ L s ps Led P μ Q c .next { s with heap := h', toks := tk } :=
  ⟨c', h', tk, m', news', rfl, F, N, hl, hk, hp, hm⟩
end Mine
end

section
open PySem PySem.StrLaws PySem.Builtin.Str
namespace Mine
theorem indices_clip (a b len : Nat) : strSliceIndices (some (a : Int)) (some (b : Int)) 1 len = strSliceIndices (some ((min a len : Nat) : Int)) (some ((min b len : Nat) : Int)) 1 len := by
  have h1 : ¬ ((a : Int) < 0) := by omega
  have h2 : ¬ ((b : Int) < 0) := by omega
  have h3 : ¬ (((min a len : Nat) : Int) < 0) := by omega
  have h4 : ¬ (((min b len : Nat) : Int) < 0) := by omega
  have e1 : max (0 : Int) (min (a : Int) (len : Int)) = ((min a len : Nat) : Int) := by omega
  have e2 : max (0 : Int) (min (b : Int) (len : Int)) = ((min b len : Nat) : Int) := by omega
  have e3 : max (0 : Int) (min ((min a len : Nat) : Int) (len : Int)) = ((min a len : Nat) : Int) := by omega
  have e4 : max (0 : Int) (min ((min b len : Nat) : Int) (len : Int)) = ((min b len : Nat) : Int) := by omega
  simp only [strSliceIndices, h1, h2, h3, h4, if_false, e1, e2, e3, e4, show ((1 : Int) > 0) = True from by simp, if_true]
theorem indices_none (b len : Nat) : strSliceIndices none (some (b : Int)) 1 len = strSliceIndices (some ((0 : Nat) : Int)) (some (b : Int)) 1 len := by
  have h1 : ¬ (((0 : Nat) : Int) < 0) := by omega
  have e1 : max (0 : Int) (min ((0 : Nat) : Int) (len : Int)) = 0 := by omega
  simp only [strSliceIndices, h1, if_false, e1, show ((1 : Int) > 0) = True from by simp, if_true]
theorem indices_rev (a b len : Nat) (h : min b len ≤ min a len) : strSliceIndices (some (a : Int)) (some (b : Int)) 1 len = [] := by
  rw [indices_clip]
  have h3 : ¬ (((min a len : Nat) : Int) < 0) := by omega
  have h4 : ¬ (((min b len : Nat) : Int) < 0) := by omega
  have e3 : max (0 : Int) (min ((min a len : Nat) : Int) (len : Int)) = ((min a len : Nat) : Int) := by omega
  have e4 : max (0 : Int) (min ((min b len : Nat) : Int) (len : Int)) = ((min b len : Nat) : Int) := by omega
  have e5 : ¬ (((min a len : Nat) : Int) < ((min b len : Nat) : Int)) := by omega
  simp only [strSliceIndices, sliceRange, h3, h4, if_false, e3, e4, e5, show ((1 : Int) > 0) = True from by simp, if_true]
  rfl
theorem filter_idx (x : Str) (a b : Nat) : (strSliceIndices (some (a : Int)) (some (b : Int)) 1 x.length).filterMap (x.cps[·]?) = (x.cps.toList.drop a).take (b - a) := by
  by_cases h : min a x.length ≤ min b x.length
  · rw [indices_clip, sliced_plain x h (Nat.min_le_right _ _)]
    have hl : x.cps.toList.length = x.length := by simp [Str.length]
    apply List.ext_getElem?
    intro i
    simp only [List.getElem?_take, List.getElem?_drop]
    by_cases h2 : a ≤ x.length
    · rw [Nat.min_eq_left h2] at h ⊢
      by_cases h3 : i < min b x.length - a
      · have h4 : i < b - a := by omega
        simp [h3, h4]
      · simp only [h3, if_false]
        by_cases h4 : i < b - a
        · simp only [h4, if_true]
          rw [List.getElem?_eq_none (by omega)]
        · simp [h4]
    · rw [List.getElem?_eq_none (l := x.cps.toList) (i := a + i) (by omega), List.getElem?_eq_none (l := x.cps.toList) (i := min a x.length + i) (by omega)]
      simp
  · rw [indices_rev a b _ (by omega)]
    have hl : x.cps.toList.length = x.length := by simp [Str.length]
    have : b - a = 0 ∨ x.length ≤ a := by omega
    rcases this with h | h
    · simp [h]
    · rw [List.drop_eq_nil_of_le (by omega)]; simp
theorem slice_cps (x : Str) (a b : Nat) : (Txt.slice x (some (a : Int)) (some (b : Int))).cps.toList = (x.cps.toList.drop a).take (b - a) := by
  unfold Txt.slice
  split
  · rename_i h
    have hl : x.cps.toList.length = x.length := by simp [Str.length]
    simp only [Bool.and_eq_true, beq_iff_eq] at h
    have e := filter_idx x a b
    by_cases h0 : x.length = 0
    · have : x.cps.toList = [] := List.length_eq_zero_iff.mp (by omega)
      simp [this]
    · have hmin : min a x.length < min b x.length := Nat.lt_of_not_le fun h' => by rw [indices_rev a b _ h'] at h; simp at h; omega
      have h2 := h.2
      rw [indices_clip, strSliceIndices_plain (by omega) (Nat.min_le_right _ _)] at h2
      simp only [List.length_map, List.length_range] at h2
      have ha : a = 0 := by omega
      have hb : x.length ≤ b := by omega
      subst ha
      rw [List.drop_zero, List.take_of_length_le (by omega)]
  · exact filter_idx x a b
theorem slice0_cps (x : Str) (b : Nat) : (Txt.slice x none (some (b : Int))).cps.toList = x.cps.toList.take b := by
  have e : Txt.slice x none (some (b : Int)) = Txt.slice x (some ((0 : Nat) : Int)) (some (b : Int)) := by
    unfold Txt.slice
    rw [indices_none]
  rw [e, slice_cps]
  simp
theorem slice_len (x : Str) (a b : Nat) : (Txt.slice x (some (a : Int)) (some (b : Int))).length = min (b - a) (x.length - a) := by
  have h := congrArg List.length (slice_cps x a b)
  simpa [Str.length] using h
theorem slice_len_le {x : Str} {a b : Int} {n : Nat} (ha : 0 ≤ a) (h : 0 ≤ b) (hb : b - a ≤ n) : (Txt.slice x (some a) (some b)).length ≤ n := by
  obtain ⟨a', rfl⟩ := Int.eq_ofNat_of_zero_le ha
  obtain ⟨b', rfl⟩ := Int.eq_ofNat_of_zero_le h
  have := slice_len x a' b'
  omega
theorem slice0_len_le {x : Str} {b : Int} (hb : 0 ≤ b) : ((Txt.slice x none (some b)).length : Int) ≤ b := by
  obtain ⟨b', rfl⟩ := Int.eq_ofNat_of_zero_le hb
  have h := congrArg List.length (slice0_cps x b')
  simp only [List.length_take, Array.length_toList] at h
  show ((Txt.slice x none (some (b' : Int))).cps.size : Int) ≤ b'
  omega
theorem slice_mem {x : Str} {a b : Int} (ha : 0 ≤ a) (hb : 0 ≤ b) {c : Nat} (h : c ∈ (Txt.slice x (some a) (some b)).cps.toList) : c ∈ x.cps.toList := by
  obtain ⟨a', rfl⟩ := Int.eq_ofNat_of_zero_le ha
  obtain ⟨b', rfl⟩ := Int.eq_ofNat_of_zero_le hb
  rw [slice_cps] at h
  exact List.mem_of_mem_drop (List.mem_of_mem_take h)
theorem replace_len (x y z : Str) : (Txt.replace x y z).length ≤ x.length + (x.length + 1) * z.length := by
  unfold Txt.replace
  split
  · omega
  · have h1 := StrLaws.occ_length_le x y 0 x.length (x.length + 1)
    have hy : (glued y (partsBetween x (occurrences x y 0 x.length (x.length + 1)) y.length)).length = x.length := by rw [StrLaws.glued_between_self]
    rw [size_glued, length_partsBetween, Nat.add_sub_cancel] at hy
    rw [size_glued, length_partsBetween, Nat.add_sub_cancel]
    have h2 : (occurrences x y 0 x.length (x.length + 1)).length * z.length ≤ (x.length + 1) * z.length := Nat.mul_le_mul_right _ h1
    omega
end Mine
end

section
open PySem PySem.W PyProof.Rows PySem.Calls PySem.StrLaws
set_option Elab.async false
set_option maxRecDepth 100000
set_option maxHeartbeats 4000000
namespace Mine
local macro_rules | `(tactic| k_room) => `(tactic| exact Nat.le_of_ble_eq_true rfl)
local macro_rules | `(tactic| walk_at "call builtin:str.rindex") => `(tactic| (refine call_rindex_count (by assumption) ?_; intro iL hiL))

theorem linecol_spec {w : World} {gd : Option (List Code)} {base : Heap} {outer : List Env} {s : Shared} {mean : ExcName → Option Value} {mg mb : Str → Option Value} {R : Result → Shared → Prop}
    {x : Str} {t tk : Tok} {k : Int} (C : Cx w mean mg mb base outer s.heap)
    (hx : x.length ≤ 1048576) (hk : 0 ≤ k) (hk2 : k ≤ x.length)
    (hR : ∀ D a b ta tb h' tk', Keeps s.heap h' → s.heap.get? D = none → h'.get? D = some (tupOf [.int a ta, .int b tb]) → 0 ≤ a → a ≤ 2000000 → 0 ≤ b → b ≤ 2000000 → R (.ok (.ret (.ref D))) { s with heap := h', toks := tk' }) :
    codeAny (model Challenge.rw_ev0023_01.row.prog w) (Ar 900 900 gd outer) (.call (.ref 21) ⟨[.str x t, .int k tk], []⟩) R s := by
  w_top off
  have B := C.below 900 gd
  have X := C.XH
  have T := C.TH
  revert X
  k_fill
  intro X
  refine' enter_def (binds := [("doc", .str x t), ("pos", .int k tk)]) B X T ?k1 ?k2 ?k3 ?k4 ?k5 ?_ ?k6 ?k7 ?k8 ?k9
  case k1 => k_is
  case k2 => k_is
  case k3 => exact Nat.le_of_ble_eq_true rfl
  case k4 => exact BindsTo.of_eq rfl
  case k5 => exact locs rfl
  case k6 => decide
  case k7 => exact rfl
  case k8 => exact rfl
  case k9 => exact rfl
  clear B X T
  intro g L' h₁ hg F N B' X' T' hL
  try dsimp only
  k_fold
  k_steps
  all_goals (
    subst hg
    with_reducible rename Fr _ _ _ _ => F9
    with_reducible rename News _ _ _ _ => N9
    obtain ⟨e1, _, e3⟩ := N9 _ (List.mem_cons_self ..)
    have c1 := count_bounds (Txt.slice x none (some k)) (Str.ofString "\n")
    have c2 := slice0_len_le (x := x) hk
    exact hR _ _ _ _ _ _ _ F9.keep e3 e1 (by omega) (by omega) (by omega) (by omega))

/-- a call of linecol from a frame -/
theorem linecol_call {w : World} {gd : Option (List Code)} {base : Heap} {outer : List Env} {s : Shared} {mean : ExcName → Option Value} {mg mb : Str → Option Value} {g : Heap} {L : Addr} {m : Str → Option Value} {env : Env} {news : List (Addr × Obj)} {n : Nat} {E Q : Value → Shared → Prop}
    {x : Str} {t tk : Tok} {k : Int} (C : Cx w mean mg mb base outer g) (F : Fr g L s.heap m) (N : News g L s.heap news) (hf : env.frame = some L) (hke : env.scope.kind = .function)
    (hx : x.length ≤ 1048576) (hk : 0 ≤ k) (hk2 : k ≤ x.length) (hn : n ≤ 890)
    (hR : ∀ D a b ta tb h' tk', Fr g L h' m → News g L h' ((D, tupOf [.int a ta, .int b tb]) :: news) → (∀ p ∈ news, p.1 ≠ D) → 0 ≤ a → a ≤ 2000000 → 0 ≤ b → b ≤ 2000000 → Q (.ref D) { s with heap := h', toks := tk' }) :
    wpAny (model Challenge.rw_ev0023_01.row.prog w) ((Ar n n gd outer).deeper env) (call (.ref 21) [.str x t, .int k tk] []) Q E s := by
  refine wpAny_call (codeAny_ctx (A' := Ar 900 900 gd (env :: outer)) (linecol_spec (C.deeper F hf hke) hx hk hk2 fun D a b ta tb h' tk' k1 k2 k3 b1 b2 b3 b4 => ?_) rfl (by show n + 1 ≤ 900; omega) rfl rfl (by show n + 3 ≤ 900; omega))
  obtain ⟨N', ne⟩ := news_new F N k1 k2 k3
  exact hR D a b ta tb h' tk' (F.keeps k1) N' ne b1 b2 b3 b4
end Mine
end

section
open PySem PySem.W PyProof.Rows PySem.Calls PySem.StrLaws
set_option Elab.async false
set_option maxRecDepth 100000
set_option maxHeartbeats 4000000
namespace Mine
local macro_rules | `(tactic| k_room) => `(tactic| exact Nat.le_of_ble_eq_true rfl)

theorem foldl_head (q : Nat) (f : Nat → List Nat) : ∀ (l : List Nat) (acc : Array Nat), acc[0]? = some q → (l.foldl (fun out c => out ++ (f c).toArray) acc)[0]? = some q
  | [], acc, h => h
  | c :: r, acc, h => foldl_head q f r _ (by
    obtain ⟨h0, h1⟩ := Array.getElem?_eq_some_iff.mp h
    rw [Array.getElem?_append_left h0]; exact h)
theorem reprText_head (x : Str) : (reprText x).cps[0]? = some (PySem.reprQuote x) := by
  unfold reprText
  show ((x.cps.foldl (fun out c => out ++ (_ : List Nat).toArray) #[PySem.reprQuote x]).push (PySem.reprQuote x))[0]? = _
  rw [← Array.foldl_toList]
  have h := foldl_head (PySem.reprQuote x) (Builtin.Str.reprChar (PySem.reprQuote x)) x.cps.toList #[PySem.reprQuote x] rfl
  obtain ⟨h0, h1⟩ := Array.getElem?_eq_some_iff.mp h
  rw [Array.getElem?_push_lt h0]
  simp
theorem reprQuote_is (x : Str) : PySem.reprQuote x = 34 ∨ PySem.reprQuote x = 39 := by
  unfold PySem.reprQuote; split <;> simp
theorem repr_ne (x : Str) : (Str.ofString "%r" == reprText x) = false := by
  rw [beq_eq_false_iff_ne]
  intro h
  have e : Str.ofString "%r" = Str.mk #[37, 114] := by decide +kernel
  rw [e] at h
  have h2 := congrArg (fun y : Str => y.cps[0]?) h
  rw [reprText_head] at h2
  rcases reprQuote_is x with q | q <;> rw [q] at h2 <;> simp at h2
theorem repr_slice_len {x : Str} {a b : Int} (hx : ∀ c ∈ x.cps.toList, c < 1114112) (ha : 0 ≤ a) (hb : 0 ≤ b) (hab : b - a ≤ (1 : Nat)) : (reprText (Txt.slice x (some a) (some b))).length ≤ 12 := by
  have h1 := slice_len_le (x := x) ha hb hab
  have h2 := StrLaws.reprText_len (Txt.slice x (some a) (some b)) fun c hc => Nat.lt_trans (hx c (slice_mem ha hb hc)) (by decide)
  omega
section
variable {prog : Program} {w : World} {A : Around} {E : Value → Shared → Prop} {s : Shared} {x y z : Str} {t u v : Tok} {Q : Value → Shared → Prop}
theorem call_repr12 (h : (reprText x).length ≤ 12) (hq : Q (.str (reprText x) s.toks) { s with toks := s.toks + 1 }) : wpAny (model prog w) A (call (.builtin "repr") [.str x t]) Q E s :=
  P.repr_of_str hq (by rw [sizeLine_eq]; omega)
theorem call_replace12 (hu : @LT.lt Nat instLTNat 0 u) (huv : @LT.lt Nat instLTNat u v) (hyz : (y == z) = false) (hx : x.length ≤ 100) (hz : z.length ≤ 12)
    (hq : ∀ t' k, (Txt.replace x y z).length ≤ 100000 → Q (.str (Txt.replace x y z) t') { s with toks := k }) :
    wpAny (model prog w) A (call (.builtin "str.replace") [.str x t, .str y u, .str z v]) Q E s := by
  have h1 : (x.length + 1) * z.length ≤ 101 * z.length := Nat.mul_le_mul_right _ (by omega)
  have h2 := replace_len x y z
  exact SC.replace (Nat.ne_of_gt hu) (Nat.ne_of_gt (Nat.lt_trans hu huv)) (Nat.ne_of_lt huv) hyz (by omega) fun t' k => hq t' k (by omega)
end
local macro_rules | `(tactic| walk_at "execs cons") => `(tactic| refine wpAny_execs_cons ?_)
local macro_rules | `(tactic| walk_at "execs nil") => `(tactic| refine wpAny_execs_nil ?_)
local macro_rules | `(tactic| walk_at "call ref") => `(tactic| (
  (with_reducible show wpAny _ _ (call (Value.ref 21) _ _) _ _ _)
  refine wpAny_with_toks (Nat.le_refl _) ?_
  k_dflt (refine' linecol_call ?C ?F ?N rfl rfl ?h1 ?h2 ?h3 ?h4 ?_; (case C => assumption); (case F => k_asm); (case N => k_asm); (case h1 => assumption); (case h2 => assumption); (case h3 => assumption); (case h4 => decide); k_whole)
  intro D a b ta tb h' tk' F' N' ne b1 b2 b3 b4
  dsimp only
  intro htk1
  (try simp only [List.length_cons, List.length_nil] at htk1)))
local macro_rules | `(tactic| walk_at "subscriptTail Name Slice str ref") => `(tactic| (
  (with_reducible show wpAny _ _ (subscriptTail _ (Expr.Slice (some _) (some _) none _) _ _) _ _ _)
  (refine wpAny_with_toks (Nat.le_refl _) ?_); (with_reducible rename Fr _ _ _ _ => F'); (with_reducible rename News _ _ _ _ => N')
  (refine slice_strN_ss (hsz := ?hsz) (s := ⟨_, _, _, _, _⟩) F' N' ?_); (case hsz => size_fits)
  intro h' t' k' F' N'
  dsimp only
  intro htk2))
local macro_rules | `(tactic| walk_at "call builtin:repr") => `(tactic| refine call_repr12 (repr_slice_len (by assumption) (by omega) (by omega) (by omega)) ?_)
local macro_rules | `(tactic| walk_at "call builtin:str.replace") => `(tactic| (refine call_replace12 (by omega) (by omega) (repr_ne _) (by assumption) (repr_slice_len (by assumption) (by omega) (by omega) (by omega)) ?_; intro t' k' hlen))

theorem errmsg_spec {w : World} {gd : Option (List Code)} {base : Heap} {outer : List Env} {s : Shared} {mean : ExcName → Option Value} {mg mb : Str → Option Value} {R : Result → Shared → Prop}
    {mx x : Str} {t t0 tk : Tok} {k : Int} (C : Cx w mean mg mb base outer s.heap)
    (hm : mx.length ≤ 100) (hx : x.length ≤ 1048576) (hk : 0 ≤ k) (hk2 : k ≤ x.length) (hc : ∀ c ∈ x.cps.toList, c < 1114112)
    (hR : ∀ y ty h' tk', Keeps s.heap h' → R (.ok (.ret (.str y ty))) { s with heap := h', toks := tk' }) :
    codeAny (model Challenge.rw_ev0023_01.row.prog w) (Ar 880 880 gd outer) (.call (.ref 29) ⟨[.str mx t0, .str x t, .int k tk, .none], []⟩) R s := by
  w_top off
  have B := C.below 880 gd
  have X := C.XH
  have T := C.TH
  revert X
  k_fill
  intro X
  refine' enter_def (binds := [("msg", .str mx t0), ("doc", .str x t), ("pos", .int k tk), ("end", .none)]) B X T ?k1 ?k2 ?k3 ?k4 ?k5 ?_ ?k6 ?k7 ?k8 ?k9
  case k1 => k_is
  case k2 => k_is
  case k3 => exact Nat.le_of_ble_eq_true rfl
  case k4 => first | exact BindsTo.of_eq rfl | exact binds_K X rfl (by k_is) rfl rfl rfl
  case k5 => exact locs rfl
  case k6 => decide
  case k7 => exact rfl
  case k8 => exact rfl
  case k9 => exact rfl
  clear B X T
  intro g L' h₁ hg F N B' X' T' hL
  try dsimp only
  k_fold
  rw [← hg] at C
  k_steps
  subst hg
  with_reducible rename Fr _ _ _ _ => F9
  exact hR _ _ _ _ F9.keep

/-- a call of errmsg from a frame -/
theorem errmsg_call {w : World} {gd : Option (List Code)} {base : Heap} {outer : List Env} {s : Shared} {mean : ExcName → Option Value} {mg mb : Str → Option Value} {g : Heap} {L : Addr} {m : Str → Option Value} {env : Env} {news : List (Addr × Obj)} {n : Nat} {E Q : Value → Shared → Prop}
    {mx x : Str} {t t0 tk : Tok} {k : Int} (C : Cx w mean mg mb base outer g) (F : Fr g L s.heap m) (N : News g L s.heap news) (hf : env.frame = some L) (hke : env.scope.kind = .function)
    (hm : mx.length ≤ 100) (hx : x.length ≤ 1048576) (hk : 0 ≤ k) (hk2 : k ≤ x.length) (hc : ∀ c ∈ x.cps.toList, c < 1114112) (hn : n ≤ 870)
    (hR : ∀ y ty h' tk', Fr g L h' m → News g L h' news → Q (.str y ty) { s with heap := h', toks := tk' }) :
    wpAny (model Challenge.rw_ev0023_01.row.prog w) ((Ar n n gd outer).deeper env) (call (.ref 29) [.str mx t0, .str x t, .int k tk, .none] []) Q E s := by
  refine wpAny_call (codeAny_ctx (A' := Ar 880 880 gd (env :: outer)) (errmsg_spec (C.deeper F hf hke) hm hx hk hk2 hc fun y ty h' tk' k1 => ?_) rfl (by show n + 1 ≤ 880; omega) rfl rfl (by show n + 3 ≤ 880; omega))
  exact hR y ty h' tk' (F.keeps k1) (N.keeps k1)
end Mine
end

section
open PySem PySem.W PyProof.Rows PySem.Calls
set_option Elab.async false
set_option maxRecDepth 100000
set_option maxHeartbeats 4000000
namespace Mine
abbrev excRaw (C t : Addr) : Obj := { cls := .ref C, data := .fields #[.ref t, .none, .none, .none, .bool false, .none] }
section
variable {prog : Program} {w : World} {A : Around} {K : Frag} {C fI : Addr} {R : Result → Shared → Prop} {h : Heap} {g : Array GenState} {d : Drawn} {t : Nat} {os : OsState}
variable {nm q : Str} {N : Addr} {bs bm : List Value} {hdct : Bool} {sn : List Str} {sub : List Value} {ab : Bool} {col : Option Bool} {dd : Option Addr} {k0 k1 k2 k3 k5 : Option Value} {B newId initId : String}
theorem exc_make (F : ExcBaseFacts B newId initId bm) {rest : List Value} (X : K.In h) (hC : K.lookup C = some (excClassObj nm q C N bs bm hdct sn sub ab col dd k0 k1 k2 k3 k5 newId))
    (hcall : specialIn K (.ref C) "__call__" = some (some (.builtin "type.__call__"))) (htyp : instIn K (.ref C) (.type "type") = some true)
    (hi : findIn K (.ref C) "__init__" = some (some (.ref fI))) (hf : typeIn K (.ref fI) = some (.type "function")) (hself : mroIn K C (.ref C) = some true) (hrest : rest.length ≤ sizeLine)
    (hq : codeAny (model prog w) (A.under (.builtin "type.__call__" ⟨.ref C :: rest, []⟩)) (.call (.ref fI) ⟨.ref (h.objs.size + 1) :: rest, []⟩) (InitBack (h.objs.size + 1) R)
      ⟨(h.push (tupOf rest)).push (excRaw C h.objs.size), g, d, t, os⟩) :
    codeAny (model prog w) A (.call (.ref C) ⟨rest, []⟩) R ⟨h, g, d, t, os⟩ := by
  have hC' := X _ _ hC
  have call := looks_specialIn (M := model prog w) X hcall
  have typ := looks_instIn (M := model prog w) X htyp
  refine codeAny_of_tree ?_
  show wpAny _ _ (callAny (.ref C) _) _ _ _
  refine nd_load hC' ?_
  show wpAny _ _ (callAny.viaDunder (.ref C) _) _ _ _
  unfold callAny.viaDunder
  refine wpAny_bind (call.at ?_)
  dsimp only
  rw [tc_bind]
  refine wpAny_bind (wpAny_pure (wpAny_bind (wpAny_pure ?_)))
  refine wpAny_pure (a := Fin.again (.call (.builtin "type.__call__") ⟨.ref C :: rest, []⟩)) (And.intro rfl ?_)
  refine codeAny_call_builtin_at (Code.quiet_builtin _ (by decide +kernel)) entry_typeCall (check_slot tc_kind tc_split typ (tc_args _ _ _) ?_)
  unfold Builtin.«type.__call__»
  repeat (first | with_reducible refine wpAny_loadPart_at hC' ?_ | with_reducible refine wpAny_madeBy_exc hC' ?_ | wp_step)
  refine codeAny_call_builtin_code (Code.quiet_builtin _ F.quiet) (wpAny_check_new_sub F hC' ?_)
  refine codeAny_exc_new_sub F hC' ?_ hrest
  show wpAny _ _ _ _ _ _
  have k : ∀ b o, h.get? b = some o → ((h.push (tupOf rest)).push (excRaw C h.objs.size)).get? b = some o := fun b o e => Heap.get?_push_of_some _ (Heap.get?_push_of_some _ e)
  have hx : ((h.push (tupOf rest)).push (excRaw C h.objs.size)).get? (h.objs.size + 1) = some (excRaw C h.objs.size) := by heap_get
  have t1 : Looks (model prog w) ((h.push (tupOf rest)).push (excRaw C h.objs.size)) (typeOf (.ref (h.objs.size + 1))) (.ref C) := (Looks.ld hx).andThen .now
  have s1 := (looks_mroIn (M := model prog w) X hself).keeps k
  have i1 := (looks_findIn (M := model prog w) X hi).keeps k
  have b1 := (bind_fn (M := model prog w) X (.ref (h.objs.size + 1)) hf).keeps k
  unfold isInstance callSpecial? specialOf
  repeat (first | with_reducible refine wpAny_call ?_ | lk)
  refine codeAny_mono hq fun r s' z => ?_
  rcases r with e | (v | _ | _ | _) <;> first | exact z | exact z.elim | skip
  obtain ⟨rfl, z⟩ := z
  exact wpAny_pure (wpAny_pure z)
end
end Mine
end

section
open PySem PySem.W PyProof.Rows PySem.Calls PySem.Builtin PySem.Builtin.ObjectAttr
set_option Elab.async false
set_option maxRecDepth 100000
set_option maxHeartbeats 4000000
namespace Mine
/-- a dict's object read as a namespace -/
def IsNs1 (od : Obj) (mA : Str → Option Value) : Prop := ∃ es ep, od.data = .dict es ep ∧ StrKeys es ∧ UniqKeys es ∧ ∀ name, nsFind es name = mA name
theorem IsNs1.at {h : Heap} {a : Addr} {od : Obj} {mA : Str → Option Value} (x : IsNs1 od mA) (e : h.get? a = some od) : h.Ns1 a mA := let ⟨es, ep, r⟩ := x; ⟨od, es, ep, e, r⟩
theorem IsNs1.of {h : Heap} {a : Addr} {mA : Str → Option Value} (x : h.Ns1 a mA) : ∃ od, h.get? a = some od ∧ IsNs1 od mA := let ⟨od, es, ep, e, r⟩ := x; ⟨od, e, es, ep, r⟩

theorem ns_of_K {K : Frag} {h : Heap} {P : Params} {N : Addr} {es : Array DictEntry} {n : Nat} (X : K.In h) (hl : K.lookup N = some ⟨.type "dict", none, .dict es n, #[]⟩) (hk : KeysLit P es.toList) : h.Ns N (nsFind es) :=
  ⟨_, es, n, X _ _ hl, rfl, fun e he => by
    obtain ⟨x, t, e1, _⟩ := hk.all e (Array.mem_toList_iff.mpr he)
    exact ⟨x, t, e1⟩, fun _ => rfl⟩

/-- an own exception's object, its dict -/
abbrev excObj (C t : Addr) (dd : Option Addr) : Obj := { cls := .ref C, dict := dd, data := .fields #[.ref t, .none, .none, .none, .bool false, .none] }

section
variable {prog : Program} {w : World} {A : Around} {E : Value → Shared → Prop} {h : Heap} {g : Array GenState} {d : Drawn} {t : Nat} {os : OsState}
variable {nm q : Str} {C N x t0 : Addr} {bs bm : List Value} {sn : List Str} {sub : List Value} {ab : Bool} {col : Option Bool} {dd : Option Addr} {k0 k1 k2 k3 k5 : Option Value} {B newId sa owner : String}
  {mN mA : Str → Option Value} {name : Str} {v : Value}
theorem exc_entry0 {tk : Tok} {Q : Fin → Shared → Prop} (SF : StoreFacts B bm sa owner)
    (hC : h.get? C = some (excClassObj nm q C N bs bm true sn sub ab col dd k0 k1 k2 k3 k5 newId)) (hn : h.Ns N mN) (hna : mN name = none)
    (hB : typeLookup (.type B) name = pure none) (hx : h.get? x = some (excObj C t0 none))
    (hq : ∀ h' tk', (∀ b o, b ≠ x → h.get? b = some o → h'.get? b = some o) → h'.get? x = some (excObj C t0 (some h.objs.size)) →
      h'.Ns1 h.objs.size (fun y => if y = name then some v else none) → Q (.done (.ret .none)) ⟨h', g, d, tk', os⟩) :
    wpAny (model prog w) A (Builtin.«object.__setattr__» ⟨[.ref x, .str name tk, v], []⟩) Q E ⟨h, g, d, t, os⟩ := by
  have hpass := SF.passes (.ref x)
  unfold Builtin.«object.__setattr__»
  repeat (first | rw [refuse_eq] | (rw [refuseLoop_ref, hpass]) | with_reducible refine wpAny_loadPart_at hx ?_ | with_reducible refine wpAny_mroOf_exc hC ?_ | (with_reducible refine wpAny_typeLookup_exc hC hn SF.mro hB ?_; rw [hna]) | wp_step)
  have hxs : x ≠ h.objs.size := Nat.ne_of_lt (Heap.lt_size hx)
  have hx₁ : (h.push { cls := .type "dict", data := .dict #[] }).get? x = some (excObj C t0 none) := Heap.get?_push_of_some _ hx
  have hgd : ((h.push { cls := .type "dict", data := .dict #[] }).update x fun o => { cls := o.cls, dict := some h.objs.size, data := o.data, slots := o.slots }).get? h.objs.size
      = some { cls := .type "dict", data := .dict #[] } := (Heap.get?_update_ne _ _ _ _ hxs.symm).trans (Heap.get?_push_at rfl rfl)
  refine wpAny_askSetting (wpAny_pure (wpAny_bind (wpAny_mkText (wpAny_bind (wpAny_loadPart hgd ?_)))))
  dsimp only
  rw [if_neg (by rw [aRefKeyMayBeTheName_at]; simp)]
  refine wpAny_updatePart hgd ?_
  generalize (if name.cps.isEmpty = true then (0 : Int) else _) = hh
  dsimp only
  have e1 : Obj.putName name hh (.str name t) v { cls := .type "dict", data := .dict #[] } = { cls := .type "dict", data := .dict #[⟨hh, .str name t, v⟩] 1 } := by
    rw [Obj.putName_eq]; simp [Obj.putNameByArray]
  have hfin := Heap.get?_update_self (Obj.putName name hh (.str name t) v) hgd (by rw [e1]; rfl)
  rw [e1] at hfin
  refine wpAny_bind (wpAny_lookBehind hfin (pastItsLine_dict (by rw [sizeLine_eq]; show 1 ≤ _; omega)) ?_)
  refine wpAny_pure ?_
  refine hq _ _ (fun b o hb e => ?_) ?_ ⟨_, _, _, hfin, rfl, ?_, ?_, ?_⟩
  · have h1 : b ≠ h.objs.size := Nat.ne_of_lt (Heap.lt_size e)
    exact (Heap.get?_update_ne _ _ _ _ h1).trans ((Heap.get?_update_ne _ _ _ _ hb).trans (Heap.get?_push_of_some _ e))
  · exact (Heap.get?_update_ne _ _ _ _ hxs).trans (Heap.get?_update_self _ hx₁ rfl)
  · intro e he
    simp only [List.mem_toArray, List.mem_singleton] at he
    exact ⟨name, t, by rw [he]⟩
  · show List.Pairwise _ [_]
    exact List.pairwise_singleton _ _
  · intro y
    unfold nsFind findBy
    by_cases hy : y = name
    · subst hy; simp [Value.isStr]
    · have : (name == y) = false := by simpa using fun e : name = y => hy e.symm
      simp [Value.isStr, this, hy]
theorem exc_store0 {Q : Unit → Shared → Prop} (SF : StoreFacts B bm sa owner)
    (hC : h.get? C = some (excClassObj nm q C N bs bm true sn sub ab col dd k0 k1 k2 k3 k5 newId)) (hn : h.Ns N mN) (hns : mN "__setattr__" = none) (hna : mN name = none)
    (hB : typeLookup (.type B) name = pure none) (hx : h.get? x = some (excObj C t0 none))
    (hq : ∀ h' tk', (∀ b o, b ≠ x → h.get? b = some o → h'.get? b = some o) → h'.get? x = some (excObj C t0 (some h.objs.size)) →
      h'.Ns1 h.objs.size (fun y => if y = name then some v else none) → Q () ⟨h', g, d, tk', os⟩) :
    wpAny (model prog w) A (setAttr (.ref x) name v) Q E ⟨h, g, d, t, os⟩ := by
  have f3 := SF.slot.bind (.ref x)
  unfold setAttr callSpecial? specialOf
  repeat (any_goals (first | assumption | with_reducible refine wpAny_loadPart_at hx ?_ | (with_reducible refine wpAny_typeLookup_exc hC hn SF.mro SF.slot.lookup ?_; rw [hns]) | wp_step))
  refine codeAny_call_builtin SF.slot.plain SF.entry (wpAny_check_sa SF hC hx rfl (exc_entry0 SF hC hn hna hB hx fun h' tk' a1 a2 a3 => ?_))
  repeat (any_goals (first | assumption | wp_step))
  exact hq h' tk' a1 a2 a3
end
end Mine
end

section
open PySem PySem.W PyProof.Rows PySem.Calls PySem.Builtin PySem.Builtin.ObjectAttr
set_option Elab.async false
set_option maxRecDepth 100000
set_option maxHeartbeats 4000000
namespace Mine
section
variable {prog : Program} {w : World} {A : Around} {E : Value → Shared → Prop} {s : Shared} {g : Heap} {L : Addr} {m : Str → Option Value} {news : List (Addr × Obj)}
variable {nm q : Str} {C N x d t0 : Addr} {od : Obj} {bs bm : List Value} {sn : List Str} {sub : List Value} {ab : Bool} {col : Option Bool} {dd : Option Addr} {k0 k1 k2 k3 k5 : Option Value} {B newId sa owner : String}
  {mN mA : Str → Option Value} {name : Str} {v : Value} {Q : Unit → Shared → Prop}
theorem exc_set0 (SF : StoreFacts B bm sa owner) (F : Fr g L s.heap m) (Nw : News g L s.heap news) (hxm : (x, excObj C t0 none) ∈ news)
    (hC : s.heap.get? C = some (excClassObj nm q C N bs bm true sn sub ab col dd k0 k1 k2 k3 k5 newId)) (hn : s.heap.Ns N mN) (hns : mN "__setattr__" = none) (hna : mN name = none)
    (hB : typeLookup (.type B) name = pure none)
    (hq : ∀ h' tk' d od, Fr g L h' m → News g L h' [(x, excObj C t0 (some d)), (d, od)] → IsNs1 od (fun y => if y = name then some v else none) → d ≠ x → Q () { s with heap := h', toks := tk' }) :
    wpAny (model prog w) A (setAttr (.ref x) name v) Q E s := by
  have hx := Nw _ hxm
  obtain ⟨h, gg, dr, t, os⟩ := s
  dsimp only at F Nw hx hC hn
  refine exc_store0 SF hC hn hns hna hB hx.1 fun h' tk' a1 a2 a3 => ?_
  obtain ⟨od, ho, hod⟩ := IsNs1.of a3
  have hdx : h.objs.size ≠ x := Nat.ne_of_gt (Heap.lt_size hx.1)
  have F' : Fr g L h' m := ⟨F.ns.at fun o e => a1 _ _ hx.2.1.symm e, fun b o e => a1 b o (fun z => by rw [z, hx.2.2] at e; cases e) (F.keep b o e), F.above⟩
  refine hq h' tk' _ od F' (fun p hp => ?_) hod hdx
  rcases List.mem_cons.mp hp with rfl | hp
  · exact ⟨a2, hx.2⟩
  · rcases List.mem_cons.mp hp with rfl | hp
    · refine ⟨ho, ?_, none_at_size (s := ⟨h, gg, dr, t, os⟩) F⟩
      obtain ⟨oL, _, _, hL, _⟩ := F.ns
      exact Nat.ne_of_gt (Heap.lt_size hL)
    · cases hp
theorem exc_set1 {ns : List Str} (SF : StoreFacts B bm sa owner) (F : Fr g L s.heap m) (Nw : News g L s.heap news) (hxm : (x, excObj C t0 (some d)) ∈ news) (hdm : (d, od) ∈ news) (hod : IsNs1 od mA) (hdx : d ≠ x)
    (hC : s.heap.get? C = some (excClassObj nm q C N bs bm true sn sub ab col dd k0 k1 k2 k3 k5 newId)) (hn : s.heap.Ns N mN) (hns : mN "__setattr__" = none) (hna : mN name = none)
    (hB : typeLookup (.type B) name = pure none)
    (hq : ∀ h' tk' od', Fr g L h' m → News g L h' [(x, excObj C t0 (some d)), (d, od')] → IsNs1 od' (fun y => if y = name then some v else mA y) → Q () { s with heap := h', toks := tk' })
    (hw : Within mA ns) (hsz : ns.length ≤ sizeLine) :
    wpAny (model prog w) A (setAttr (.ref x) name v) Q E s := by
  have hx := Nw _ hxm
  have hd := Nw _ hdm
  obtain ⟨h, gg, dr, t, os⟩ := s
  dsimp only at F Nw hx hC hn hd
  have hxC : x ≠ C := fun e => by have := hx.1; rw [e, hC] at this; cases this
  have I : h.Inst x C mA := ⟨_, hx.1, rfl, fun c e => (by cases e), .inr ⟨d, rfl, hdx, hod.at hd.1⟩⟩
  refine store_attr (ns := ns) SF hC hn hns hna hB hxC I (fun h' tk' I' hk hsame => ?_) hw hsz
  obtain ⟨o₁, ho₁, hc₁, hd₁, hs₁, hdd₁⟩ := hsame _ hx.1
  obtain ⟨o, ho, hc, hnc, hdd⟩ := I'
  rw [ho₁] at ho
  cases ho
  have hdict := hdd₁ d rfl
  have keep : ∀ b o, b ≠ x → b ≠ d → h.get? b = some o → h'.get? b = some o := fun b o hb hb2 e => hk b o hb (fun o₀ dx e1 e2 => by rw [hx.1] at e1; cases e1; cases e2; exact hb2) e
  have F' : Fr g L h' m := ⟨F.ns.at fun o e => keep _ _ hx.2.1.symm hd.2.1.symm e, fun b o e => keep b o (fun z => by rw [z, hx.2.2] at e; cases e) (fun z => by rw [z, hd.2.2] at e; cases e) (F.keep b o e), F.above⟩
  rcases hdd with ⟨hdn, _⟩ | ⟨d', hdd, _, hN1⟩
  · rw [hdict] at hdn; cases hdn
  · rw [hdict] at hdd
    cases hdd
    obtain ⟨od', hod', hod2⟩ := IsNs1.of hN1
    have e1 : o₁ = excObj C t0 (some d) := by
      obtain ⟨oc, odd, oda, osl⟩ := o₁
      dsimp only at hc₁ hd₁ hs₁ hdict
      subst hc₁ hd₁ hs₁ hdict
      rfl
    refine hq h' tk' od' F' (fun p hp => ?_) hod2
    rcases List.mem_cons.mp hp with rfl | hp
    · exact ⟨by rw [ho₁, e1], hx.2⟩
    · rcases List.mem_cons.mp hp with rfl | hp
      · exact ⟨hod', hd.2⟩
      · cases hp
end

theorem cls49 (P : Params) : (hd.heap_39 P).lookup 49 = some (excClassObj "JSONDecodeError" "JSONDecodeError" 49 48 [.type "ValueError"] [.type "ValueError", .type "Exception", .type "BaseException", .type "object"] true [] [] false none none
    (some (.ref 30)) none (some (.str "JSONDecodeError" 214)) (some (.str "JSONDecodeError" 222)) (some (.bool true)) "ValueError.__new__") := rfl
noncomputable def es48 (P : Params) : Array DictEntry := match (hd.heap_39 P).lookup 48 with
  | some ⟨_, _, .dict es _, _⟩ => es
  | _ => #[]
theorem ns48 (P : Params) : (hd.heap_39 P).lookup 48 = some ⟨.type "dict", none, .dict (es48 P) 4, #[]⟩ := rfl
theorem ns48_ok {w : World} {h : Heap} (X : (hd.heap_39 w.params).In h) : h.Ns 48 (nsFind (es48 w.params)) := ns_of_K X (ns48 _) (by
  show KeysLit w.params [_, _, _, _, _, _]
  exact ⟨⟨_, _, rfl, rfl⟩, ⟨_, _, rfl, rfl⟩, ⟨_, _, rfl, rfl⟩, ⟨_, _, rfl, rfl⟩, ⟨_, _, rfl, rfl⟩, ⟨_, _, rfl, rfl⟩, trivial⟩)
theorem es48_set (P : Params) : nsFind (es48 P) "__setattr__" = none := by kernel_rfl
theorem es48_msg (P : Params) : nsFind (es48 P) "msg" = none := by kernel_rfl
theorem lk_msg : typeLookup (.type "ValueError") "msg" = pure none := by rw [typeLookup_type, builtinLookup_eq_fast]; kernel_rfl
end Mine
namespace Mine
section
variable {prog : Program} {w : World} {A : Around} {s : Shared} {base : Heap} {outer : List Env} {mean : ExcName → Option Value} {mg mb : Str → Option Value}
  {R : Result → Shared → Prop} {name qual : Str} {params : Arguments} {body : List Stmt} {scope : Scope} {cl : List (Str × Addr)} {dV kV doc pm cdv ct oc : Value} {an od : Option Addr} {osl : Array (Option Value)} {f x : Addr} {ox : Obj} {args : Args} {binds : List (Str × Value)}

/-- a call that turns one object of its own caller's: the object is hidden from the ground -/
theorem enter_defE (C : Cx w mean mg mb base outer s.heap) (hA : A.frames = some outer) (hx : s.heap.get? x = some ox) (hxb : base.get? x = none) (hxd : ∃ vs, ox.data = .fields vs)
    (ho : (hd.heap_39 w.params).lookup f = some ⟨oc, od, .func (fnX name qual params body scope cl dV kV doc pm an cdv ct), osl⟩) (hcd : codeIn (hd.heap_39 w.params) cdv qual = true) (hroom : A.depth < recursionLimit)
    (hbind : BindsTo s (fnX name qual params body scope cl dV kV doc pm an cdv ct) args binds) (hloc : ∀ y ∈ binds, scope.names.lookup y.1 = some .local)
    (h : ∀ g L' h₁, g = s.heap.hide x → Fr g L' h₁ (fun y => binds.reverse.lookup y) → News g L' h₁ [(x, ox)] → Below A base outer g → (hd.heap_39 w.params).In g →
      Top hd.view_39 (looseW hd.view_39 [Str.ofString "errmsg", Str.ofString "JSONDecodeError", Str.ofString "BACKSLASH", Str.ofString "py_scanstring"]) mean mg mb g → Cx w mean mg mb base outer g →
      _root_.PySem.wpAt (model prog w) (A.deeper (envX qual scope L' f cdv cl)) (.func body (envX qual scope L' f cdv cl)) (execs body (envX qual scope L' f cdv cl))
        (fun fl s' => R (.ok (.ret (match fl with | .ret v => v | _ => .none))) s')
        (fun e s' => wpAny (model prog w) (A.deeper (envX qual scope L' f cdv cl)) (leaving (envX qual scope L' f cdv cl) e) (fun _ s'' => R (.error e) s'') (fun e' s'' => R (.error e') s'') s')
        { s with heap := h₁, toks := s.toks + binds.length })
    (hcell : ∀ x ∈ scope.names, x.2 ≠ .cell) (hco : scope.isCoroutine = false := by rfl) (hgen : scope.isGenerator = false := by rfl) (hk : scope.kind = .function := by rfl) : codeAny (model prog w) A (.call (.ref f) args) R s := by
  refine ks_codeAny_call_defAt (fd := fnX name qual params body scope cl dV kV doc pm an cdv ct) (body := body) (binds := binds) hroom (C.XH _ _ ho) rfl C.TH.nolimit (codeRec_of C.XH hcd) rfl hbind hcell hloc (fun h₁ hns hk₁ => ?_) hco hgen hk
  have st : base.StaysIn (s.heap.hide x) := fun b o e => (Heap.hide_ne s.heap fun z => by rw [z, hxb] at e; cases e).trans (C.stays b o e)
  have ff : (s.heap.hide x).FunFrames base outer := by
    have := funFrames_hideAll (as := [x]) C.frames fun env he a ha hf => ?_
    · exact this
    · cases ha with
      | head =>
        obtain ⟨_, o, ho, hd⟩ := C.frames.mem (List.mem_filterMap.mpr ⟨env, he, hf⟩)
        rw [hx] at ho
        cases ho
        obtain ⟨vs, e⟩ := hxd
        exact hd vs e
      | tail _ q => cases q
  have C' : Cx w mean mg mb base outer (s.heap.hide x) := ⟨st, ff, C.X, C.T⟩
  refine h _ _ h₁ rfl ⟨hns, fun b o e => hk₁ b o (Heap.of_hide e), Nat.le_of_eq (Heap.hide_size _ _)⟩ (fun p hp => ?_) ⟨hA, st, ff⟩ C'.XH C'.TH C'
  cases hp with
  | head => exact ⟨hk₁ _ _ hx, Nat.ne_of_lt (Heap.lt_size hx), Heap.hide_self _ _⟩
  | tail _ q => cases q
end
end Mine
end

section
open PySem PySem.W PyProof.Rows PySem.Calls PySem.Builtin
set_option Elab.async false
set_option maxRecDepth 100000
set_option maxHeartbeats 4000000
namespace Mine
theorem slot_wd_get : Slot "wrapper_descriptor" "__get__" "wrapper_descriptor.__get__" := .of (owner := "wrapper_descriptor") (n := "__get__") (by rw [typeLookup_type, builtinLookup_eq_fast]; kernel_rfl) (by decide +kernel) (by decide +kernel) (by decide +kernel)
  (by first | exact .inl (by decide +kernel) | exact .inr (by decide +kernel)) (by rw [isSubtype_type]; kernel_rfl)
theorem entry_wd_get : entryFor table "wrapper_descriptor.__get__" = some Builtin.«wrapper_descriptor.__get__» := entryFor_of_tree (by kernel_rfl)
theorem args_wd_get (a b c : Value) : argsOk "wrapper_descriptor.__get__" ⟨[a, b, c], []⟩ := by unfold argsOk; kernel_rfl
theorem type_vinit : typeOf (.builtin "ValueError.__init__") = pure (.type "wrapper_descriptor") := by show builtinType _ = _; rw [builtinType_eq_fast]; kernel_rfl
theorem owner_vinit : ".".intercalate ("ValueError.__init__".cutAt '.').dropLast = "ValueError" := by decide +kernel
abbrev mwObj (x : Addr) : Obj := { cls := .type "method-wrapper", data := .fields #[.builtin "ValueError.__init__", .ref x] }
section
variable {prog : Program} {w : World} {A : Around} {E : Value → Shared → Prop} {h : Heap} {g : Array GenState} {d : Drawn} {t : Nat} {os : OsState}
theorem wd_get_run {x C : Addr} {ox : Obj} {Q : Fin → Shared → Prop} (hx : h.get? x = some ox) (hc : ox.cls = .ref C) (hsub : Looks (model prog w) h (isSubtype (.ref C) (.type "ValueError")) true)
    (hq : Q (.done (.ret (.ref h.objs.size))) ⟨h.push (mwObj x), g, d, t, os⟩) :
    wpAny (model prog w) A (Builtin.«wrapper_descriptor.__get__» ⟨[.builtin "ValueError.__init__", .ref x, .ref C], []⟩) Q E ⟨h, g, d, t, os⟩ := by
  unfold Builtin.«wrapper_descriptor.__get__»
  repeat (first | (with_reducible refine wpAny_loadPart_at hx ?_; rw [hc]) | (with_reducible refine Looks.at hsub ?_) | wp_step)
  rw [owner_vinit]
  repeat (first | (with_reducible refine Looks.at hsub ?_) | wp_step)
  exact hq

theorem exc_super_ga {K : Frag} {so D x C : Addr} {ox : Obj} {l₀ l : List Value} {tk : Tok} {Q : Fin → Shared → Prop}
    (hso : h.get? so = some { cls := .type "super", dict := none, data := .fields #[.ref D, .ref x, .ref C], slots := #[] }) (hno : Looks (model prog w) h (opaqueClassAbove (.ref C)) none)
    (hC : Looks (model prog w) h (mroOf (.ref C)) l₀) (hl : (l₀.dropWhile (· != .ref D)).drop 1 = l) (X : K.In h)
    (hf : alongIn K "__init__" l = some (some (.builtin "ValueError.__init__"))) (hx : h.get? x = some ox) (hc : ox.cls = .ref C) (hxC : x ≠ C) (hsub : Looks (model prog w) h (isSubtype (.ref C) (.type "ValueError")) true)
    (hq : Q (.done (.ret (.ref h.objs.size))) ⟨h.push (mwObj x), g, d, t, os⟩) :
    wpAny (model prog w) A (Builtin.«super.__getattribute__» ⟨[.ref so, .str "__init__" tk], []⟩) Q E ⟨h, g, d, t, os⟩ := by
  have hlk := slot_wd_get.lookup
  have hty := type_vinit
  have hne : (Value.ref x == Value.ref C) = false := by simp [hxC]
  have hTf : (⟨h, g, d, t, os⟩ : Shared).TypeIs (.builtin "ValueError.__init__") "wrapper_descriptor" := type_vinit
  have hdt : ({ cls := .type "super", dict := none, data := .fields #[.ref D, .ref x, .ref C], slots := #[] } : Obj).data = .fields #[.ref D, .ref x, .ref C] := rfl
  have f0 : (#[.ref D, .ref x, .ref C] : Array Value)[0]? = some (.ref D) := rfl
  have f1 : (#[.ref D, .ref x, .ref C] : Array Value)[1]? = some (.ref x) := rfl
  have f2 : (#[.ref D, .ref x, .ref C] : Array Value)[2]? = some (.ref C) := rfl
  have hn : ((Str.ofString "__init__") == ("__class__" : Str)) = false := by decide
  unfold Builtin.«super.__getattribute__»
  repeat (first
    | (with_reducible refine wpAny_field hso hdt f0 ?_) | (with_reducible refine wpAny_field hso hdt f1 ?_) | (with_reducible refine wpAny_field hso hdt f2 ?_)
    | (with_reducible refine ks_wpAny_notOpaque hno ?_)
    | (with_reducible refine Looks.at hC ?_; rw [hl])
    | (refine ks_forIn_along X (fun _ _ => rfl) rfl ?_ hf)
    | (with_reducible refine wpAny_call_entry slot_wd_get hTf entry_wd_get (wd_get_run hx hc hsub ?_) (args_wd_get _ _ _))
    | (with_reducible refine ⟨_, rfl, ?_⟩)
    | (simp only [hn, hne, Bool.or_false, Bool.false_eq_true, if_false])
    | wp_step
    | dsimp only)
  all_goals exact hq

theorem exc_getMethod_super {K : Frag} {so D x C : Addr} {ox : Obj} {l₀ l : List Value} {pl : Sem Bool} {Q : Value × List Value → Shared → Prop}
    (hso : h.get? so = some { cls := .type "super", dict := none, data := .fields #[.ref D, .ref x, .ref C], slots := #[] }) (hno : Looks (model prog w) h (opaqueClassAbove (.ref C)) none)
    (hC : Looks (model prog w) h (mroOf (.ref C)) l₀) (hl : (l₀.dropWhile (· != .ref D)).drop 1 = l) (X : K.In h)
    (hf : alongIn K "__init__" l = some (some (.builtin "ValueError.__init__"))) (hx : h.get? x = some ox) (hc : ox.cls = .ref C) (hxC : x ≠ C) (hsub : Looks (model prog w) h (isSubtype (.ref C) (.type "ValueError")) true)
    (hq : Q (.ref h.objs.size, []) ⟨h.push (mwObj x), g, d, t + 1, os⟩) :
    wpAny (model prog w) A (getMethod (.ref so) "__init__" pl) Q E ⟨h, g, d, t, os⟩ := by
  have hlk := F.ks_slot_super_ga.lookup
  have hcan := F.ks_canon_super_ga
  have hT : ∀ t', (⟨h, g, d, t', os⟩ : Shared).TypeIs (.ref so) "super" := fun _ => ⟨_, hso, rfl⟩
  unfold getMethod
  refine wpAny_bind (wpAny_specialOf (hT _) hlk ?_)
  show wpAny _ _ (if (Manifest.canonical "super.__getattribute__" != "object.__getattribute__") = true then _ else _) _ _ _
  rw [if_pos hcan]
  unfold getAttr getAttrBy
  refine wpAny_bind (wpAny_bind (wpAny_mkText (wpAny_holding (wpAny_bind (wpAny_typeOf (hT _) (wpAny_bind (wpAny_of_eq hlk ?_)))))))
  show wpAny _ _ (getAttrByItsOwn (.ref so) (.str "__init__" t) (.type "super") (.builtin "super.__getattribute__") true false) _ _ _
  unfold getAttrByItsOwn hookBefore callGetattribute boundAndCalled
  refine wpAny_bind (wpAny_of_eq (show (if onTheHeap (.type "super") then typeLookup (.type "super") "__getattr__" else pure none) = pure none from rfl) ?_)
  refine wpAny_bind (wpAny_attempt (wpAny_holding ?_))
  show wpAny _ _ (bindSpecial (.builtin "super.__getattribute__") (.ref so) >>= _) _ _ _
  refine wpAny_bind (wpAny_of_eq (F.ks_slot_super_ga.bind _) ?_)
  refine wpAny_mono (Q := fun v s' => v = .ref h.objs.size ∧ s' = ⟨h.push (mwObj x), g, d, t + 1, os⟩) (E := fun _ _ => False)
    (wpAny_call_entry F.ks_slot_super_ga (hT _) F.ks_entry_super_ga (exc_super_ga hso hno hC hl X hf hx hc hxC hsub ⟨_, rfl, rfl, rfl⟩) (F.ks_gaArgs_super _ _)) (fun v s' hv => ?_) fun _ _ z => z.elim
  obtain ⟨rfl, rfl⟩ := hv
  exact wpAny_pure (wpAny_pure hq)
theorem vinit_check {M : Model} {nm q : Str} {C N e : Addr} {bs bm : List Value} {hdct : Bool} {sn : List Str} {sub : List Value} {ab : Bool} {col : Option Bool} {dd : Option Addr} {k0 k1 k2 k3 k5 : Option Value} {newId : String}
    {oe : Obj} {b : Value} {Q : Unit → Shared → Prop} (hC : h.get? C = some (excClassObj nm q C N bs bm hdct sn sub ab col dd k0 k1 k2 k3 k5 newId)) (he : h.get? e = some oe) (hcls : oe.cls = .ref C) (hq : Q () ⟨h, g, d, t, os⟩) :
    wpAny M A (checkBoundCall "ValueError.__init__" ⟨[.ref e, b], []⟩) Q E ⟨h, g, d, t, os⟩ := by
  have F := F.excBase_ValueError
  have hshort := F.noStar
  simp only [checkBoundCall, F.initRow, F.initKind]
  repeat (first | (with_reducible refine wpAny_loadPart_at he ?_; rw [hcls]) | with_reducible refine wpAny_loadPart_at hC ?_ | wp_step)
  exact hq
theorem vinit_quiet (a : Args) : (Code.builtin "ValueError.__init__" a).quiet = true := Code.quiet_builtin _ (by decide +kernel)
theorem exc_init_run {x C t1 : Addr} {y : Value} {Q : Fin → Shared → Prop} (hx : h.get? x = some (excObj C t1 none))
    (hq : Q (.done (.ret .none)) ⟨(h.push (tupOf [y])).update x (Obj.mapFields (·.setIfInBounds 0 (.ref h.objs.size))), g, d, t, os⟩) :
    wpAny (model prog w) A (Builtin.«BaseException.__init__» ⟨[.ref x, y], []⟩) Q E ⟨h, g, d, t, os⟩ := by
  unfold Builtin.«BaseException.__init__»
  have hx₁ : (h.push (tupOf [y])).get? x = some (excObj C t1 none) := Heap.get?_push_of_some _ hx
  wp_walk
  exact hq
theorem exc_mw_call {nm q : Str} {C N x t1 mw : Addr} {bs bm : List Value} {hdct : Bool} {sn : List Str} {sub : List Value} {ab : Bool} {col : Option Bool} {dd : Option Addr} {k0 k1 k2 k3 k5 : Option Value} {newId : String} {y : Value} {Q : Value → Shared → Prop}
    (hC : h.get? C = some (excClassObj nm q C N bs bm hdct sn sub ab col dd k0 k1 k2 k3 k5 newId)) (hx : h.get? x = some (excObj C t1 none)) (hm : h.get? mw = some (mwObj x))
    (hq : Q .none ⟨(h.push (tupOf [y])).update x (Obj.mapFields (·.setIfInBounds 0 (.ref h.objs.size))), g, d, t, os⟩) :
    wpAny (model prog w) A (call (.ref mw) [y]) Q E ⟨h, g, d, t, os⟩ := by
  refine wpAny_call (codeAny_of_tree ?_)
  show wpAny _ A.in1 (callAny (.ref mw) ⟨[y], []⟩) _ _ _
  simp only [callAny]
  refine wpAny_bind (wpAny_load hm ?_)
  simp only [show (Value.type "method-wrapper" == Value.type "method" || Value.type "method-wrapper" == Value.type "builtin_function_or_method" || Value.type "method-wrapper" == Value.type "method-wrapper") = true by decide, if_true]
  show wpAny (model prog w) A.in1 (if (Value.type "method-wrapper" != Value.type "method") = true then (checkBoundCall "ValueError.__init__" ⟨[.ref x, y], []⟩ >>= fun _ => again (.builtin "ValueError.__init__" ⟨[.ref x, y], []⟩)) else again (.call (.builtin "ValueError.__init__") ⟨[.ref x, y], []⟩)) _ _ _
  rw [if_pos (show (Value.type "method-wrapper" != Value.type "method") = true by decide)]
  refine wpAny_bind (vinit_check hC hx rfl ?_)
  refine wpAny_bind (wpAny_pure (wpAny_pure ?_))
  exact ⟨vinit_quiet _, codeAny_builtin F.excBase_ValueError.initEntry (exc_init_run hx hq)⟩
end
end Mine
end

section
open PySem PySem.W PyProof.Rows PySem.Calls PySem.Builtin
set_option Elab.async false
set_option maxRecDepth 100000
set_option maxHeartbeats 4000000
namespace Mine
abbrev bmVE : List Value := [.type "ValueError", .type "Exception", .type "BaseException", .type "object"]
theorem statics_any (P : Params) : nsIn (hd.heap_39 P) cStatics "thirdparty.any" = some none := by kernel_rfl
theorem cls49_in (P : Params) : ∃ cd, clsIn (hd.heap_39 P) 49 = some cd ∧ cd.mro = .ref 49 :: bmVE := ⟨_, rfl, rfl⟩
theorem along49 (P : Params) : alongIn (hd.heap_39 P) "__init__" bmVE = some (some (.builtin "ValueError.__init__")) := by kernel_rfl
theorem sub49 (P : Params) : mroIn (hd.heap_39 P) 49 (.type "ValueError") = some true := by kernel_rfl
theorem sub49s (P : Params) : mroIn (hd.heap_39 P) 49 (.ref 49) = some true := by kernel_rfl
theorem call49 (P : Params) : specialIn (hd.heap_39 P) (.ref 49) "__call__" = some (some (.builtin "type.__call__")) := by kernel_rfl
theorem inst49 (P : Params) : instIn (hd.heap_39 P) (.ref 49) (.type "type") = some true := by kernel_rfl
theorem init49 (P : Params) : findIn (hd.heap_39 P) (.ref 49) "__init__" = some (some (.ref 46)) := by kernel_rfl
theorem fn46 (P : Params) : typeIn (hd.heap_39 P) (.ref 46) = some (.type "function") := by kernel_rfl
section
variable {prog : Program} {w : World} {A : Around} {E : Value → Shared → Prop} {s : Shared} {g : Heap} {L : Addr} {m : Str → Option Value} {news : List (Addr × Obj)} {x t1 so : Addr} {dd : Option Addr}
theorem inst_exc (N : News g L s.heap news) (h : (x, excObj 49 t1 none) ∈ news) : InstAt s.heap x (excObj 49 t1 none) 49 none := ⟨(N _ h).1, rfl, rfl, trivial⟩
theorem exc_method {pl : Sem Bool} {Q : Value × List Value → Shared → Prop} (F : Fr g L s.heap m) (X₀ : (hd.heap_39 w.params).In g) (N : News g L s.heap news) (hso : (so, ks_superObj 49 x 49) ∈ news) (hx : (x, excObj 49 t1 dd) ∈ news)
    (h : ∀ q h', Fr g L h' m → News g L h' ((q, mwObj x) :: news) → (∀ p ∈ news, p.1 < q) → Q (.ref q, []) { s with heap := h', toks := s.toks + 1 }) :
    wpAny (model prog w) A (getMethod (.ref so) "__init__" pl) Q E s := by
  have X := X₀.keeps F.keep
  have hx' := (N _ hx).1
  have hC := X _ _ (cls49 w.params)
  obtain ⟨cd, hcd, hmro⟩ := cls49_in w.params
  obtain ⟨hh, gg, d, t, os⟩ := s
  refine exc_getMethod_super (N _ hso).1 (looks_opaque X (statics_any _)) (l₀ := .ref 49 :: bmVE) ?_ rfl X (along49 _) hx' rfl (fun e => ?_) (looks_mroIn X (sub49 _)) ?_
  · rw [← hmro]
    exact fun A Q E s k q => wpAny_bind ((looks_clsIn X hcd) A _ E s k (wpAny_pure q))
  · dsimp only at hx' hC
    rw [e, hC] at hx'; cases hx'
  · obtain ⟨F', N', l'⟩ := ks_newsPush (s := ⟨hh, gg, d, t, os⟩) (o := mwObj x) F N rfl (Heap.get?_push_at rfl rfl) (fun b o e => Heap.get?_push_of_some _ e)
    exact h _ _ F' N' l'
def StandsMw (u x : Addr) (h : Heap) : Prop := h.get? u = some (mwObj x)
theorem callWith_mw {M : Model} {pos : Pos} {u : Addr} {first : List Value} {env : Env} {e : Expr} {rest : List Expr} {Q : Value → Shared → Prop} (uN0 : News g L s.heap news) (uhm0 : (u, mwObj x) ∈ news)
    (h : wpAny M A (spliced (backTo pos (starEach (e :: rest) env))) (fun vs s₁ => StandsMw u x s₁.heap ∧ wpAny M A (call (.ref u) (first ++ vs)) Q E s₁) E s)
    (he : starEach (e :: rest) env = (false, eval e env) :: starEach rest env := by rfl) (hplain : (backTo pos (starEach rest env)).any (·.1) = false := by rfl) :
    wpAny M A (callWith pos (.ref u) first (backTo pos (starEach (e :: rest) env)) []) Q E s := by
  have hplain' : (backTo pos (starEach (e :: rest) env)).any (·.1) = false := by rw [he]; show (false || (backTo pos (starEach rest env)).any (·.1)) = false; rw [hplain]; rfl
  unfold callWith
  refine wpAny_bind (wpAny_holding (wpAny_mono (Q := fun a s₁ => StandsMw u x s₁.heap ∧ wpAny M A (call (.ref u) (first ++ a.pos) a.kw) Q E s₁) (by rw [he] at h ⊢; exact evalArgs_plain h) (fun a s₁ h₁ => wpAny_bind (wpAny_standAt ?_)) fun _ _ x => x))
  obtain ⟨ho, hcall⟩ := h₁
  simp only [hplain', List.any_nil, Bool.or_false]
  refine wpAny_bind (m := keeperOf (.ref u)) ?_
  unfold keeperOf
  refine wpAny_bind (wpAny_load ho ?_)
  simp only [show (Value.type "method-wrapper" != Value.type "method") = true by decide, show (Value.type "method-wrapper" == Value.type "builtin_function_or_method" || Value.type "method-wrapper" == Value.type "method-wrapper") = true by decide, if_true]
  refine wpAny_pure ?_
  exact wpAny_bind (wpAny_mono hcall (fun r s₂ hr => wpAny_bind (wpAny_holding (wpAny_point (wpAny_pure hr)))) fun _ _ x => x)
theorem standsMw {u : Addr} {h : Heap} (N : News g L h news) (hm : (u, mwObj x) ∈ news) : StandsMw u x h := (N _ hm).1
theorem call_mw {mw : Addr} {y : Value} {Q : Value → Shared → Prop} (F : Fr g L s.heap m) (X₀ : (hd.heap_39 w.params).In g) (N : News g L s.heap news) (hm : (mw, mwObj x) ∈ news) (hx : (x, excObj 49 t1 none) ∈ news)
    (h : ∀ h' t2, Fr g L h' m → News g L h' [(x, excObj 49 t2 none)] → Q .none { s with heap := h' }) : wpAny (model prog w) A (call (.ref mw) [y]) Q E s := by
  have X := X₀.keeps F.keep
  have hx' := N _ hx
  have hC := X _ _ (cls49 w.params)
  have hm' := (N _ hm).1
  obtain ⟨hh, gg, d, t, os⟩ := s
  dsimp only at hC hm' hx' F N
  refine exc_mw_call hC hx'.1 hm' ?_
  have e1 := Heap.get?_update_self (Obj.mapFields (·.setIfInBounds 0 (Value.ref hh.objs.size))) (Heap.get?_push_of_some (tupOf [y]) hx'.1) rfl
  have e2 : ∀ b o, b ≠ x → hh.get? b = some o → ((hh.push (tupOf [y])).update x (Obj.mapFields (·.setIfInBounds 0 (Value.ref hh.objs.size)))).get? b = some o := fun b o hb e => (Heap.get?_update_ne _ _ _ _ hb).trans (Heap.get?_push_of_some _ e)
  refine h _ hh.objs.size ⟨F.ns.at fun o e => e2 _ _ hx'.2.1.symm e, fun b o e => e2 b o (fun z => by rw [z, hx'.2.2] at e; cases e) (F.keep b o e), F.above⟩ fun p hp => ?_
  rcases List.mem_cons.mp hp with rfl | hp
  · exact ⟨e1, hx'.2⟩
  · cases hp
end
section
variable {w : World} {A : Around} {E : Value → Shared → Prop} {s : Shared} {prog : Program} {g : Heap} {L : Addr} {m : Str → Option Value} {news : List (Addr × Obj)} {x t1 d : Addr} {od : Obj} {name : Str} {v : Value} {mA : Str → Option Value} {Q : Unit → Shared → Prop}
theorem exc_setA (F : Fr g L s.heap m) (X₀ : (hd.heap_39 w.params).In g) (N : News g L s.heap news) (hx : (x, excObj 49 t1 none) ∈ news) (hna : nsFind (es48 w.params) name = none) (hB : typeLookup (.type "ValueError") name = pure none)
    (hq : ∀ h' tk' d od, Fr g L h' m → News g L h' [(x, excObj 49 t1 (some d)), (d, od)] → IsNs1 od (fun y => if y = name then some v else none) → d ≠ x → Q () { s with heap := h', toks := tk' }) :
    wpAny (model prog w) A (setAttr (.ref x) name v) Q E s :=
  have X := X₀.keeps F.keep
  exc_set0 PySem.F.store_ValueError F N hx (X _ _ (cls49 w.params)) (ns48_ok X) (es48_set _) hna hB hq
theorem exc_setB {ns : List Str} (F : Fr g L s.heap m) (X₀ : (hd.heap_39 w.params).In g) (N : News g L s.heap news) (hx : (x, excObj 49 t1 (some d)) ∈ news) (hd : (d, od) ∈ news) (hod : IsNs1 od mA) (hdx : d ≠ x) (hna : nsFind (es48 w.params) name = none) (hB : typeLookup (.type "ValueError") name = pure none)
    (hw : Within mA ns) (hsz : ns.length ≤ sizeLine)
    (hq : ∀ h' tk' od', Fr g L h' m → News g L h' [(x, excObj 49 t1 (some d)), (d, od')] → IsNs1 od' (fun y => if y = name then some v else mA y) → Q () { s with heap := h', toks := tk' }) :
    wpAny (model prog w) A (setAttr (.ref x) name v) Q E s :=
  have X := X₀.keeps F.keep
  exc_set1 PySem.F.store_ValueError F N hx hd hod hdx (X _ _ (cls49 w.params)) (ns48_ok X) (es48_set _) hna hB hq hw hsz
end
/-- the fields of an own exception that the law reads -/
def ExcFields (od : Obj) (mx x : Str) (k : Int) : Prop := ∃ mA t0 t tk, IsNs1 od mA ∧ mA "msg" = some (.str mx t0) ∧ mA "doc" = some (.str x t) ∧ mA "pos" = some (.int k tk) ∧ mA "end" = some .none
end Mine
end

section
open PySem PySem.W PyProof.Rows PySem.Calls PySem.StrLaws
set_option Elab.async false
set_option maxRecDepth 100000
set_option maxHeartbeats 4000000
namespace Mine
local macro_rules | `(tactic| k_room) => `(tactic| exact Nat.le_of_ble_eq_true rfl)

local macro_rules | `(tactic| k_inst) => `(tactic| exact inst_exc (by k_asm) (by k_mem))
local macro_rules | `(tactic| walk_at "getMethod ref") => `(tactic| (k_dflt (refine' exc_method ?F ?X ?N ?h1 ?h2 ?_; (case F => k_asm); (case X => k_asm); (case N => k_asm); (case h1 => k_mem); (case h2 => k_mem); k_whole); intro q' h' F' N' l1; (try k_lt l1)))
local macro_rules | `(tactic| walk_at "callWith ref") => `(tactic| (k_dflt (refine' callWith_mw ?N ?h1 ?_; (case N => k_asm); (case h1 => k_mem); k_whole)))
local macro_rules | `(tactic| walk_at "And") => `(tactic| ((with_reducible show StandsMw _ _ _ ∧ _); k_dflt (refine ⟨standsMw (by k_asm) (by k_mem), ?_⟩); (try dsimp only [List.nil_append, List.cons_append])))
local macro_rules | `(tactic| walk_at "setAttr ref") => `(tactic| (k_dflt (refine' exc_setA ?F ?X ?N ?h1 ?h2 ?h3 ?_; (case F => k_asm); (case X => k_asm); (case N => k_asm); (case h1 => k_mem); (case h2 => kernel_rfl); (case h3 => (rw [typeLookup_type, builtinLookup_eq_fast]; kernel_rfl)); k_whole); intro h' tk' d od F' N' H1 hdx; (try dsimp only at H1); (try k_sweep)))
local macro_rules | `(tactic| walk_at "setAttr ref") => `(tactic| (k_dflt (refine' exc_setB ?F ?X ?N ?h1 ?h2 ?h3 ?h4 ?h5 ?h6 ?h7 ?h8 ?_; (case F => k_asm); (case X => k_asm); (case N => k_asm); (case h1 => k_mem); (case h2 => k_mem); (case h3 => assumption); (case h4 => assumption); (case h5 => kernel_rfl); (case h6 => (rw [typeLookup_type, builtinLookup_eq_fast]; kernel_rfl)); (case h7 => within_ways); (case h8 => (rw [sizeLine_eq]; decide)); k_whole); intro h' tk' od F' N' H1; (try dsimp only at H1); (try k_sweep)))
local macro_rules | `(tactic| walk_at "call ref") => `(tactic| (
  (with_reducible show wpAny _ _ (call (Value.ref _) [_] _) _ _ _)
  k_dflt (refine' call_mw ?F ?X ?N ?h1 ?h2 ?_; (case F => k_asm); (case X => k_asm); (case N => k_asm); (case h1 => k_mem); (case h2 => k_mem); k_whole)
  intro h' t2 F' N'))
local macro_rules | `(tactic| walk_at "call ref") => `(tactic| (
  (with_reducible show wpAny _ _ (call (Value.ref 21) _ _) _ _ _)
  k_dflt (refine' linecol_call ?C ?F ?N rfl rfl ?h1 ?h2 ?h3 ?h4 ?_; (case C => assumption); (case F => k_asm); (case N => k_asm); (case h1 => assumption); (case h2 => assumption); (case h3 => assumption); (case h4 => decide); k_whole)
  intro D a b ta tb h' tk' F' N' ne b1 b2 b3 b4))
local macro_rules | `(tactic| walk_at "call ref") => `(tactic| (
  (with_reducible show wpAny _ _ (call (Value.ref 29) _ _) _ _ _)
  k_dflt (refine' errmsg_call ?C ?F ?N rfl rfl ?h0 ?h1 ?h2 ?h3 ?h4 ?h5 ?_; (case C => assumption); (case F => k_asm); (case N => k_asm); (case h0 => assumption); (case h1 => assumption); (case h2 => assumption); (case h3 => assumption); (case h4 => assumption); (case h5 => decide); k_whole)
  intro y ty h' tk' F' N'))

theorem init_spec {w : World} {gd : Option (List Code)} {base : Heap} {outer : List Env} {s : Shared} {mean : ExcName → Option Value} {mg mb : Str → Option Value} {R : Result → Shared → Prop}
    {mx x : Str} {t t0 tk : Tok} {k : Int} {e t1 : Addr} (C : Cx w mean mg mb base outer s.heap) (he : s.heap.get? e = some (excObj 49 t1 none)) (heb : base.get? e = none)
    (hm : mx.length ≤ 100) (hx : x.length ≤ 1048576) (hk : 0 ≤ k) (hk2 : k ≤ x.length) (hc : ∀ c ∈ x.cps.toList, c < 1114112)
    (hR : ∀ h' tk' t2 d od, (∀ b o, b ≠ e → s.heap.get? b = some o → h'.get? b = some o) → h'.get? e = some (excObj 49 t2 (some d)) → h'.get? d = some od → s.heap.get? d = none → d ≠ e → ExcFields od mx x k →
      R (.ok (.ret .none)) { s with heap := h', toks := tk' }) :
    codeAny (model Challenge.rw_ev0023_01.row.prog w) (Ar 850 850 gd outer) (.call (.ref 46) ⟨[.ref e, .str mx t0, .str x t, .int k tk], []⟩) R s := by
  have X := C.XH
  revert X
  k_fill
  intro X
  refine' enter_defE (binds := [("self", .ref e), ("msg", .str mx t0), ("doc", .str x t), ("pos", .int k tk), ("end", .none)]) C ?kA he heb ?kE ?k1 ?k2 ?k3 ?k4 ?k5 ?_ ?k6 ?k7 ?k8 ?k9
  case kA => exact rfl
  case kE => exact ⟨_, rfl⟩
  case k1 => k_is
  case k2 => k_is
  case k3 => exact Nat.le_of_ble_eq_true rfl
  case k4 => first | exact BindsTo.of_eq rfl | exact binds_K X rfl (by k_is) rfl rfl rfl
  case k5 => exact locs rfl
  case k6 => decide
  case k7 => exact rfl
  case k8 => exact rfl
  case k9 => exact rfl
  clear X
  intro g L' h₁ hg F N B' X' T' C'
  try dsimp only
  k_steps
  · subst hg
    with_reducible rename Fr _ _ _ _ => F9
    with_reducible rename News _ _ _ _ => N9
    with_reducible rename IsNs1 _ _ => I9
    have e1 := N9 _ (List.mem_cons_self ..)
    have e2 := N9 _ (List.mem_cons_of_mem _ (List.mem_cons_self ..))
    exact hR _ _ _ _ _ (fun b o hb e => F9.keep b o ((Heap.hide_ne s.heap hb).trans e)) e1.1 e2.1 ((Heap.hide_ne s.heap (by assumption)).symm.trans e2.2.2) (by assumption) ⟨_, _, _, _, I9, rfl, rfl, rfl, rfl⟩
end Mine
end

section
open PySem PySem.W PyProof.Rows PySem.Calls PySem.Builtin
set_option Elab.async false
set_option maxRecDepth 100000
set_option maxHeartbeats 4000000
namespace Mine
theorem Cx.keeps {w mean mg mb base outer h h'} (C : Cx w mean mg mb base outer h) (k : Keeps h h') : Cx w mean mg mb base outer h' :=
  ⟨fun b o e => k b o (C.stays b o e), C.frames.of_keeps fun b o e _ => ⟨o, k b o e, rfl⟩, C.X, C.T⟩

theorem jde_call {w : World} {gd : Option (List Code)} {base : Heap} {outer : List Env} {s : Shared} {mean : ExcName → Option Value} {mg mb : Str → Option Value} {g : Heap} {L : Addr} {m : Str → Option Value} {env : Env} {news : List (Addr × Obj)} {n : Nat} {E Q : Value → Shared → Prop}
    {mx x : Str} {t t0 tk : Tok} {k : Int} (C : Cx w mean mg mb base outer g) (F : Fr g L s.heap m) (N : News g L s.heap news) (hf : env.frame = some L) (hke : env.scope.kind = .function)
    (hm : mx.length ≤ 100) (hx : x.length ≤ 1048576) (hk : 0 ≤ k) (hk2 : k ≤ x.length) (hc : ∀ c ∈ x.cps.toList, c < 1114112) (hn : n ≤ 840)
    (hR : ∀ h' tk' e t2 d od, Fr g L h' m → News g L h' ((e, excObj 49 t2 (some d)) :: (d, od) :: news) → ExcFields od mx x k → d ≠ e → (∀ p ∈ news, p.1 ≠ e ∧ p.1 ≠ d) → Keeps s.heap h' → s.heap.get? e = none → s.heap.get? d = none → Q (.ref e) { s with heap := h', toks := tk' }) :
    wpAny (model Challenge.rw_ev0023_01.row.prog w) ((Ar n n gd outer).deeper env) (call (.ref 49) [.str mx t0, .str x t, .int k tk] []) Q E s := by
  have C₁ := C.deeper F hf hke
  have X := C₁.XH
  obtain ⟨h, gg, dr, tt, os⟩ := s
  dsimp only at F N C₁ X hR
  have kp : Keeps h ((h.push (tupOf [.str mx t0, .str x t, .int k tk])).push (excRaw 49 h.objs.size)) := fun b o e => Heap.get?_push_of_some _ (Heap.get?_push_of_some _ e)
  have hx0 : ((h.push (tupOf [.str mx t0, .str x t, .int k tk])).push (excRaw 49 h.objs.size)).get? (h.objs.size + 1) = some (excObj 49 h.objs.size none) := by heap_get
  have hne : h.get? (h.objs.size + 1) = none := Heap.get?_none_of_le (Nat.le_succ _)
  refine wpAny_call (exc_make PySem.F.excBase_ValueError X (cls49 _) (call49 _) (inst49 _) (init49 _) (fn46 _) (sub49s _) (by rw [sizeLine_eq]; show 3 ≤ _; omega) ?_)
  refine codeAny_ctx (A' := Ar 850 850 gd (env :: outer)) (init_spec (C₁.keeps kp) hx0 ?_ hm hx hk hk2 hc fun h' tk' t2 d od k1 k2 k3 k4 k5 k6 => ?_) rfl (by show n + 1 + 1 ≤ 850; omega) rfl rfl (by show n + 3 + 1 ≤ 850; omega)
  · cases q : base.get? (h.objs.size + 1) with
    | none => rfl
    | some o => have := C₁.stays _ _ q; rw [hne] at this; cases this
  · refine ⟨rfl, ?_⟩
    have kk : Keeps h h' := fun b o e => k1 b o (Nat.ne_of_lt (Nat.lt_succ_of_lt (Heap.lt_size e))) (kp b o e)
    have hnd : h.get? d = none := by
      cases q : h.get? d with
      | none => rfl
      | some o => have := kp _ _ q; rw [k4] at this; cases this
    obtain ⟨N1, n1⟩ := news_new F N kk hnd k3
    obtain ⟨N2, n2⟩ := news_new F N kk hne k2
    refine hR h' tk' _ t2 d od (F.keeps kk) (fun p hp => ?_) k6 k5 (fun p hp => ⟨n2 p hp, n1 p hp⟩) kk hne hnd
    rcases List.mem_cons.mp hp with rfl | hp
    · exact N2 _ (List.mem_cons_self ..)
    · exact N1 _ hp

section
variable {M : Model} {A : Around} {E : Value → Shared → Prop} {env : Env}
variable {nm q : Str} {C N : Addr} {bs bm : List Value} {hdct : Bool} {sn : List Str} {sub : List Value} {ab : Bool} {col : Option Bool} {dd : Option Addr} {k0 k1 k2 k3 k5 : Option Value} {newId : String}
theorem raise_own {s : Shared} {x : Sem Value} {Q : Flow → Shared → Prop} (hbase : bm.contains (.type "BaseException") = true) (hh : A.handled = none)
    (h : wpAny M A x (fun v s₁ => ∃ e t d, v = .ref e ∧ s₁.heap.get? C = some (excClassObj nm q C N bs bm hdct sn sub ab col dd k0 k1 k2 k3 k5 newId) ∧
      s₁.heap.get? e = some (excObj C t d) ∧ E (.ref e) s₁) E s) :
    wpAny M A (raiseStmt env (some x) none) Q E s := by
  have hcB : (Value.ref C :: bm).contains (.type "BaseException") = true := by rw [List.contains_cons, hbase, Bool.or_true]
  unfold raiseStmt
  refine wpAny_bind (wpAny_mono h (fun v s₁ h₁ => ?_) fun _ _ x => x)
  obtain ⟨e, t, d, rfl, hC, he, hE⟩ := h₁
  obtain ⟨hp, g, dr, tk, os⟩ := s₁
  repeat (first | with_reducible refine wpAny_loadPart_at he ?_ | with_reducible refine wpAny_loadPart_at hC ?_ | (with_reducible refine wpAny_isSubtype_exc hC ?_; rw [hcB]) | wp_step)
  exact wpAny_raiseNew_none hh hE
end
end Mine
end

section
open PySem PySem.W PyProof.Rows PySem.Calls PySem.Builtin
set_option Elab.async false
set_option maxRecDepth 100000
set_option maxHeartbeats 4000000
namespace Mine
/-- an own exception on its way: the heap against the one ahead of the raise -/
structure FlyB (base h0 : Heap) (l : List Env) (e d : Addr) (mx x : Str) (k : Int) (h : Heap) : Prop where
  base0 : base.StaysIn h0
  stays : base.StaysIn h
  frames : h.FunFrames base l
  dom : ∀ b ∈ l.filterMap (·.frame), ∃ o, h0.get? b = some o
  keep : ∀ b o, h0.get? b = some o → b ∉ l.filterMap (·.frame) → h.get? b = some o
  slots : ∀ b o, h0.get? b = some o → ∃ sl, h.get? b = some { o with slots := sl }
  newE : h0.get? e = none
  newD : h0.get? d = none
  ne : d ≠ e
  dict : ∃ od, h.get? d = some od ∧ ExcFields od mx x k
  exc : ∃ oe vs, h.get? e = some oe ∧ oe.cls = .ref 49 ∧ oe.dict = some d ∧ oe.data = .fields vs ∧ 1 < vs.size
structure Fly (base h0 : Heap) (l : List Env) (e d : Addr) (mx x : Str) (k : Int) (fl : Value) (h : Heap) : Prop extends FlyB base h0 l e d mx x k h where
  tr : ∃ T oe vs oT ts, h.get? e = some oe ∧ oe.cls = .ref 49 ∧ oe.dict = some d ∧ oe.data = .fields vs ∧ vs[1]? = some (.ref T) ∧ T ≠ e ∧ T ≠ d ∧ h0.get? T = none ∧ h.get? T = some oT ∧ oT.data = .fields ts ∧ ts[3]? = some fl

section
variable {base h0 h h' : Heap} {l : List Env} {e d T : Addr} {mx x : Str} {k : Int}
theorem FlyB.step (B : FlyB base h0 l e d mx x k h) (hT : h0.get? T = none) (hTd : T ≠ d) (hTf : ∀ o, h.get? T = some o → ∃ ts, o.data = .fields ts)
    (st : ∀ b o, b ≠ e → b ≠ T → h.get? b = some o → (b ∉ l.filterMap (·.frame) → h'.get? b = some o) ∧ ∃ sl, h'.get? b = some { o with slots := sl })
    (he : ∃ oe vs, h'.get? e = some oe ∧ oe.cls = .ref 49 ∧ oe.dict = some d ∧ oe.data = .fields vs ∧ 1 < vs.size) : FlyB base h0 l e d mx x k h' := by
  have n0 : ∀ b o, h0.get? b = some o → b ≠ e ∧ b ≠ T := fun b o q => ⟨fun z => (by rw [z, B.newE] at q; cases q), fun z => (by rw [z, hT] at q; cases q)⟩
  have hdf : d ∉ l.filterMap (·.frame) := fun hm => by
    obtain ⟨o, ho⟩ := B.dom d hm
    rw [B.newD] at ho; cases ho
  refine ⟨B.base0, fun b o q => ?_, B.frames.of_keeps fun b o q hn => ?_, B.dom, fun b o q hb => ?_, fun b o q => ?_, B.newE, B.newD, B.ne, ?_, he⟩
  · have hb := n0 b o (B.base0 b o q)
    exact (st b o hb.1 hb.2 (B.stays b o q)).1 fun hm => by rw [(B.frames.mem hm).1] at q; cases q
  · have h1 : b ≠ e := fun z => by
      obtain ⟨oe, vs, h1, _, _, h2, _⟩ := B.exc
      rw [z, h1] at q; cases q; exact hn _ h2
    have h2 : b ≠ T := fun z => by
      rw [z] at q
      obtain ⟨ts, h2⟩ := hTf _ q
      exact hn _ h2
    obtain ⟨sl, hs⟩ := (st b o h1 h2 q).2
    exact ⟨_, hs, rfl⟩
  · have hb' := n0 b o q
    exact (st b o hb'.1 hb'.2 (B.keep b o q hb)).1 hb
  · have hb' := n0 b o q
    obtain ⟨sl, hs⟩ := B.slots b o q
    obtain ⟨sl', hs'⟩ := (st b _ hb'.1 hb'.2 hs).2
    exact ⟨sl', hs'⟩
  · obtain ⟨od, ho, hf⟩ := B.dict
    exact ⟨od, (st d od B.ne hTd.symm ho).1 hdf, hf⟩
end

section
variable {M : Model} {A : Around} {E : Value → Shared → Prop} {s : Shared} {base h0 : Heap} {env : Env} {outer : List Env} {L e d : Addr} {mx x : Str} {k : Int} {Q : Unit → Shared → Prop}
theorem entry_fly {head : Value} {hadNext : Bool} (hfr : A.frames = some (env :: outer)) (hf : env.frame = some L) (B : FlyB base h0 (env :: outer) e d mx x k s.heap)
    (hQ : ∀ h', Fly base h0 (env :: outer) e d mx x k (rawInt L) h' → Q () { s with heap := h' }) :
    wpAny M A (do let a ← frameOf env; let pl ← entryPlaceOf L hadNext; let b ← EntryCells.newEntry head a .none (rawInt L) .none pl; setField (.ref e) 1 b) Q E s := by
  obtain ⟨oe, vs, he, hcls, hdict, hd, hsz⟩ := B.exc
  have hene : e ∉ (env :: outer).filterMap (·.frame) := fun hm => by
    obtain ⟨o, ho⟩ := B.dom e hm
    rw [B.newE] at ho; cases ho
  refine wpAny_bind (wpAny_frameOf_fun hfr B.frames hf fun h₁ hs₁ => ?_)
  refine wpAny_bind (wpAny_entryPlaceOf fun pl hpl => ?_)
  unfold EntryCells.newEntry newFields
  refine wpAny_bind (wpAny_newObj_type ?_ (hpl.sizeOk5 _ _ _ _ _))
  have he₁ : h₁.get? e = some oe := (hs₁.2.1 e hene).trans he
  have he₂ := Heap.get?_push_of_some (h := h₁) { cls := .type "traceback", dict := none, data := .fields ([head, .ref L, .none, rawInt L, .none] ++ (if pl.isEmpty then List.replicate 6 Value.none else pl)).toArray } he₁
  refine wpAny_setField he₂ hd hsz (hQ _ ?_)
  have hTe : h₁.objs.size ≠ e := Nat.ne_of_gt (Heap.lt_size he₁)
  have hd₃ := Obj.data_mapFields hd (·.setIfInBounds 1 (Value.ref h₁.objs.size))
  have he₃ := Heap.get?_update_self (Obj.mapFields (·.setIfInBounds 1 (Value.ref h₁.objs.size))) he₂ (Obj.isFreed_of_fields hd₃)
  have hT₃ := (Heap.get?_update_other (h₁.push { cls := .type "traceback", dict := none, data := .fields ([head, .ref L, .none, rawInt L, .none] ++ (if pl.isEmpty then List.replicate 6 Value.none else pl)).toArray })
    (Obj.mapFields (·.setIfInBounds 1 (Value.ref h₁.objs.size))) (Ne.symm hTe)).trans (Heap.get?_push_size h₁ rfl)
  have hsize : h₁.objs.size = s.heap.objs.size := hs₁.1
  have hT0 : h0.get? h₁.objs.size = none := by
    cases q : h0.get? h₁.objs.size with
    | none => rfl
    | some o =>
      obtain ⟨sl, hs⟩ := B.slots _ _ q
      exact absurd (Heap.lt_size hs) (by rw [hsize]; exact Nat.lt_irrefl _)
  have hTd : h₁.objs.size ≠ d := by
    obtain ⟨od, ho, _⟩ := B.dict
    rw [hsize]; exact Nat.ne_of_gt (Heap.lt_size ho)
  have hdictE : (oe.mapFields (·.setIfInBounds 1 (Value.ref h₁.objs.size))).dict = some d := by
    obtain ⟨c, dd, dt, sl⟩ := oe
    cases dt <;> exact hdict
  have hclsE : (oe.mapFields (·.setIfInBounds 1 (Value.ref h₁.objs.size))).cls = .ref 49 := (Obj.cls_mapFields _ _).trans hcls
  have st : ∀ b o, b ≠ e → b ≠ h₁.objs.size → s.heap.get? b = some o → (b ∉ (env :: outer).filterMap (·.frame) → ((h₁.push { cls := .type "traceback", dict := none, data := .fields ([head, .ref L, .none, rawInt L, .none] ++ (if pl.isEmpty then List.replicate 6 Value.none else pl)).toArray }).update e (Obj.mapFields (·.setIfInBounds 1 (Value.ref h₁.objs.size)))).get? b = some o) ∧
      ∃ sl, ((h₁.push { cls := .type "traceback", dict := none, data := .fields ([head, .ref L, .none, rawInt L, .none] ++ (if pl.isEmpty then List.replicate 6 Value.none else pl)).toArray }).update e (Obj.mapFields (·.setIfInBounds 1 (Value.ref h₁.objs.size)))).get? b = some { o with slots := sl } := by
    intro b o hb _ hbo
    have up : ∀ o', h₁.get? b = some o' → ((h₁.push { cls := .type "traceback", dict := none, data := .fields ([head, .ref L, .none, rawInt L, .none] ++ (if pl.isEmpty then List.replicate 6 Value.none else pl)).toArray }).update e (Obj.mapFields (·.setIfInBounds 1 (Value.ref h₁.objs.size)))).get? b = some o' := fun o' q => by
      rw [Heap.get?_update_other _ _ (Ne.symm hb)]
      exact Heap.get?_push_of_some _ q
    obtain ⟨sl, hs⟩ := hs₁.2.2 b o hbo
    exact ⟨fun hm => up _ ((hs₁.2.1 b hm).trans hbo), sl, up _ hs⟩
  refine ⟨B.step hT0 hTd (fun o q => absurd (Heap.lt_size q) (by rw [hsize]; exact Nat.lt_irrefl _)) st ⟨_, _, he₃, hclsE, hdictE, hd₃, by simpa using hsz⟩, h₁.objs.size, _, _, _, _, he₃, hclsE, hdictE, hd₃, by simp [hsz], hTe, hTd, hT0, hT₃, rfl, ?_⟩
  first | (simp; done) | (rcases hpl with rfl | ⟨_, _, _, _, _, _, _, rfl⟩ <;> simp)

theorem noteFrame_first (hfr : A.frames = some (env :: outer)) (hf : env.frame = some L) (B : FlyB base h0 (env :: outer) e d mx x k s.heap) (h1 : ∃ oe vs, s.heap.get? e = some oe ∧ oe.data = .fields vs ∧ vs[1]? = some .none)
    (hQ : ∀ h', Fly base h0 (env :: outer) e d mx x k (rawInt L) h' → Q () { s with heap := h' }) : wpAny M A (noteFrame (.ref e) env) Q E s := by
  obtain ⟨oe, vs, he, hd, h1⟩ := h1
  unfold noteFrame
  simp only [hf]
  refine wpAny_bind (wpAny_field he hd h1 ?_)
  rw [if_neg (by decide)]
  exact entry_fly hfr hf B hQ
theorem noteFrame_fly (hfr : A.frames = some (env :: outer)) (hf : env.frame = some L) (Y : Fly base h0 (env :: outer) e d mx x k .none s.heap)
    (hQ : ∀ h', Fly base h0 (env :: outer) e d mx x k (rawInt L) h' → Q () { s with heap := h' }) : wpAny M A (noteFrame (.ref e) env) Q E s := by
  obtain ⟨T, oe, vs, oT, ts, he, hcls, hdict, hd, h1, hTe, hTd, hT0, hT, hdT, h3⟩ := Y.tr
  unfold noteFrame
  simp only [hf]
  refine wpAny_bind (wpAny_field he hd h1 ?_)
  rw [if_pos (show (Value.ref T != Value.none) = true from by simp)]
  refine wpAny_bind (wpAny_field hT hdT h3 ?_)
  rw [if_neg (show ¬ ((Value.none == rawInt L) = true) from by simp [rawInt])]
  refine wpAny_bind (wpAny_setField hT hdT (Array.getElem?_eq_some_iff.mp h3).1 ?_)
  have other : ∀ b, b ≠ T → (s.heap.update T (Obj.mapFields (·.setIfInBounds 3 Value.none))).get? b = s.heap.get? b := fun b hb => Heap.get?_update_other _ _ (Ne.symm hb)
  have B' : FlyB base h0 (env :: outer) e d mx x k (s.heap.update T (Obj.mapFields (·.setIfInBounds 3 Value.none))) :=
    Y.toFlyB.step hT0 hTd (fun o q => ⟨ts, by rw [hT] at q; cases q; exact hdT⟩) (fun b o _ hb q => ⟨fun _ => (other b hb).trans q, o.slots, (other b hb).trans q⟩)
      ⟨oe, vs, (other e (Ne.symm hTe)).trans he, hcls, hdict, hd, (Array.getElem?_eq_some_iff.mp h1).1⟩
  exact entry_fly (s := { s with heap := s.heap.update T (Obj.mapFields (·.setIfInBounds 3 Value.none)) }) hfr hf B' hQ
theorem setFlight_fly {l : List Env} {fl : Value} (Y : Fly base h0 l e d mx x k fl s.heap) (hQ : ∀ h', Fly base h0 l e d mx x k .none h' → Q () { s with heap := h' }) : wpAny M A (setFlight (.ref e) none) Q E s := by
  obtain ⟨T, oe, vs, oT, ts, he, hcls, hdict, hd, h1, hTe, hTd, hT0, hT, hdT, h3⟩ := Y.tr
  have hsz3 : 3 < ts.size := (Array.getElem?_eq_some_iff.mp h3).1
  have other : ∀ b, b ≠ T → (s.heap.update T (Obj.mapFields (·.setIfInBounds 3 ((none : Option Addr).elim Value.none fun f => rawInt f)))).get? b = s.heap.get? b :=
    fun b hb => Heap.get?_update_other _ _ (Ne.symm hb)
  unfold setFlight
  refine wpAny_bind (wpAny_field he hd h1 ?_)
  rw [if_pos (show (Value.ref T != Value.none) = true from by simp)]
  refine wpAny_setField hT hdT hsz3 (hQ _ ⟨?_, T, oe, vs, _, _, (other e (Ne.symm hTe)).trans he, hcls, hdict, hd, h1, hTe, hTd, hT0, Heap.get?_update_self _ hT (Obj.isFreed_of_fields (Obj.data_mapFields hdT _)), Obj.data_mapFields hdT _, by simp [hsz3]⟩)
  exact Y.toFlyB.step hT0 hTd (fun o q => ⟨ts, by rw [hT] at q; cases q; exact hdT⟩) (fun b o _ hb q => ⟨fun _ => (other b hb).trans q, o.slots, (other b hb).trans q⟩)
    ⟨oe, vs, (other e (Ne.symm hTe)).trans he, hcls, hdict, hd, (Array.getElem?_eq_some_iff.mp h1).1⟩

theorem Fly.drop {fl : Value} {g h : Heap} (Y : Fly base h0 (env :: outer) e d mx x k fl h) (hf : env.frame = some L) (hg : Keeps g h0) (hL : g.get? L = none) (hb : base.StaysIn g) (hd : g.FunFrames base outer) : Fly base g outer e d mx x k fl h := by
  have nn : ∀ b, h0.get? b = none → g.get? b = none := fun b q => by
    cases z : g.get? b with
    | none => rfl
    | some o => have := hg b o z; rw [q] at this; cases this
  obtain ⟨T, oe, vs, oT, ts, he, hcls, hdict, hdd, h1, hTe, hTd, hT0, r⟩ := Y.tr
  refine ⟨⟨hb, Y.stays, Y.frames.2.2, fun b hm => ?_, fun b o q hm => Y.keep b o (hg b o q) fun hm' => ?_, fun b o q => Y.slots b o (hg b o q), nn _ Y.newE, nn _ Y.newD, Y.ne, Y.dict, Y.exc⟩, T, oe, vs, oT, ts, he, hcls, hdict, hdd, h1, hTe, hTd, nn _ hT0, r⟩
  · obtain ⟨_, o, ho, _⟩ := hd.mem hm
    exact ⟨o, ho⟩
  · obtain ⟨env', he', hf'⟩ := List.mem_filterMap.mp hm'
    rcases List.mem_cons.mp he' with rfl | he'
    · rw [hf] at hf'
      cases hf'
      rw [hL] at q; cases q
    · exact hm (List.mem_filterMap.mpr ⟨env', he', hf'⟩)
theorem leaving_first {g : Heap} (hfr : A.frames = some (env :: outer)) (hf : env.frame = some L) (B : FlyB base h0 (env :: outer) e d mx x k s.heap) (h1 : ∃ oe vs, s.heap.get? e = some oe ∧ oe.data = .fields vs ∧ vs[1]? = some .none)
    (hg : Keeps g h0) (hL : g.get? L = none) (hb : base.StaysIn g) (hd : g.FunFrames base outer)
    (hQ : ∀ h', Fly base g outer e d mx x k .none h' → Q () { s with heap := h' }) : wpAny M A (leaving env (.ref e)) Q E s := by
  unfold leaving
  refine wpAny_bind (noteFrame_first hfr hf B h1 fun h' Y => ?_)
  exact setFlight_fly (s := { s with heap := h' }) Y fun h'' Y' => hQ h'' (Y'.drop hf hg hL hb hd)
theorem leaving_fly {g : Heap} (hfr : A.frames = some (env :: outer)) (hf : env.frame = some L) (Y : Fly base h0 (env :: outer) e d mx x k .none s.heap)
    (hg : Keeps g h0) (hL : g.get? L = none) (hb : base.StaysIn g) (hd : g.FunFrames base outer)
    (hQ : ∀ h', Fly base g outer e d mx x k .none h' → Q () { s with heap := h' }) : wpAny M A (leaving env (.ref e)) Q E s := by
  unfold leaving
  refine wpAny_bind (noteFrame_fly hfr hf Y fun h' Y => ?_)
  exact setFlight_fly (s := { s with heap := h' }) Y fun h'' Y' => hQ h'' (Y'.drop hf hg hL hb hd)
end
end Mine
end

section
open PySem PySem.W PyProof.Rows PySem.Calls PySem.Builtin
set_option Elab.async false
set_option maxRecDepth 100000
set_option maxHeartbeats 4000000
namespace Mine
def RaisesOwn (P : Params) (E : Value → Shared → Prop) (v : Value) (s₁ : Shared) : Prop := ∃ e t d, v = .ref e ∧ s₁.heap.get? 49 = (hd.heap_39 P).lookup 49 ∧ s₁.heap.get? e = some (excObj 49 t d) ∧ E (.ref e) s₁
theorem exec_raise_own {prog : Program} {w : World} {A : Around} {E : Value → Shared → Prop} {s : Shared} {env : Env} {x : Expr} {pos : Pos} {Q : Flow → Shared → Prop} (hh : A.handled = none)
    (h : wpAny (model prog w) A (eval x env) (RaisesOwn w.params E) E s) : wpAny (model prog w) A (exec (.Raise (some x) none pos) env) Q E s := by
  rw [arm_exec_Raise]
  simp only [evalOpt, Option.map]
  refine wpAny_bind (wpAny_standAt (raise_own (C := 49) (nm := Str.ofString "JSONDecodeError") (q := Str.ofString "JSONDecodeError") (N := 48) (bs := [.type "ValueError"]) (bm := bmVE) (hdct := true) (sn := []) (sub := []) (ab := false) (col := none) (dd := none) (k0 := some (.ref 30)) (k1 := none) (k2 := some (.str "JSONDecodeError" 214)) (k3 := some (.str "JSONDecodeError" 222)) (k5 := some (.bool true)) (newId := "ValueError.__new__") (by decide) hh (wpAny_bind (wpAny_mono h (fun v s₁ h₁ => wpAny_bind (wpAny_standAt (wpAny_pure ?_))) fun _ _ x => x))))
  obtain ⟨e, t, d, rfl, hC, he, hE⟩ := h₁
  exact ⟨e, t, d, rfl, hC.trans (cls49 _), he, hE⟩
theorem flyB_of {w mean mg mb base env outer} {h0 h1 : Heap} {e d t2 : Addr} {od : Obj} {mx x : Str} {k : Int} (C : Cx w mean mg mb base (env :: outer) h0) (kp : Keeps h0 h1) (newE : h0.get? e = none) (newD : h0.get? d = none) (ne : d ≠ e)
    (he : h1.get? e = some (excObj 49 t2 (some d))) (hd : h1.get? d = some od) (hF : ExcFields od mx x k) : FlyB base h0 (env :: outer) e d mx x k h1 :=
  ⟨C.stays, fun b o q => kp b o (C.stays b o q), C.frames.of_keeps fun b o q _ => ⟨o, kp b o q, rfl⟩, fun b hm => by
    obtain ⟨_, o, ho, _⟩ := C.frames.mem hm
    exact ⟨o, ho⟩, fun b o q _ => kp b o q, fun b o q => ⟨o.slots, kp b o q⟩, newE, newD, ne, ⟨od, hd, hF⟩, ⟨_, _, he, rfl, rfl, rfl, by show 1 < 6; omega⟩⟩

theorem jde_raise {w : World} {gd : Option (List Code)} {base : Heap} {outer : List Env} {s : Shared} {mean : ExcName → Option Value} {mg mb : Str → Option Value} {g : Heap} {L : Addr} {m : Str → Option Value} {env : Env} {news : List (Addr × Obj)} {n : Nat} {E : Value → Shared → Prop} {R : Result → Shared → Prop}
    {mx x : Str} {t t0 tk : Tok} {k : Int} (C : Cx w mean mg mb base outer g) (F : Fr g L s.heap m) (N : News g L s.heap news) (hf : env.frame = some L) (hke : env.scope.kind = .function)
    (hm : mx.length ≤ 100) (hx : x.length ≤ 1048576) (hk : 0 ≤ k) (hk2 : k ≤ x.length) (hc : ∀ c ∈ x.cps.toList, c < 1114112) (hn : n ≤ 840)
    (hR : ∀ h' tk' e d, Fly base g outer e d mx x k .none h' → R (.error (.ref e)) { s with heap := h', toks := tk' }) :
    wpAny (model Challenge.rw_ev0023_01.row.prog w) ((Ar n n gd outer).deeper env) (call (.ref 49) [.str mx t0, .str x t, .int k tk] [])
      (RaisesOwn w.params (fun e s' => wpAny (model Challenge.rw_ev0023_01.row.prog w) ((Ar n n gd outer).deeper env) (leaving env e) (fun _ s'' => R (.error e) s'') (fun e' s'' => R (.error e') s'') s')) E s := by
  have C₁ := C.deeper F hf hke
  have hL : g.get? L = none := by
    cases q : g.get? L with
    | none => rfl
    | some o => exact absurd (Nat.lt_of_lt_of_le (Heap.lt_size q) F.above) (Nat.lt_irrefl _)
  refine jde_call C F N hf hke hm hx hk hk2 hc hn fun h' tk' e t2 d od F' N' hF hde hne kp hE0 hD0 => ?_
  have he := (N' _ (List.mem_cons_self ..)).1
  have hd := (N' _ (List.mem_cons_of_mem _ (List.mem_cons_self ..))).1
  refine ⟨e, t2, some d, rfl, kp _ _ (C₁.XH _ _ (cls49 _)), he, ?_⟩
  exact leaving_first (s := ⟨h', s.gens, s.drawn, tk', s.os⟩) (env := env) (L := L) rfl hf (flyB_of C₁ kp hE0 hD0 hde he hd hF) ⟨_, _, he, rfl, rfl⟩ F.keep hL C.stays C.frames fun h'' Y => hR h'' tk' e d Y
end Mine
end

section
open PySem PySem.W PyProof.Rows PySem.Calls PySem.StrLaws PySem.Builtin.Str
set_option Elab.async false
set_option maxRecDepth 100000
namespace Mine
def cpAt (x : Str) (n : Nat) : Nat := x.cps[n]?.getD 0
theorem seqIndex_nat {n len : Nat} (h : n < len) : seqIndex? (n : Int) len = some n := by
  unfold seqIndex?
  simp only []
  split <;> simp_all <;> omega
theorem item_eq {x : Str} {n : Nat} (h : n < x.length) : Txt.item x (n : Int) = ⟨#[cpAt x n]⟩ := by
  unfold Txt.item Txt.charAt cpAt
  rw [seqIndex_nat h]; rfl
theorem one_beq (a b : Nat) : ((⟨#[a]⟩ : Str) == ⟨#[b]⟩) = (a == b) := by
  rw [Bool.eq_iff_iff]; simp
def isStop (c : Nat) : Bool := c == 34 || c == 92 || decide (c < 32)
theorem sq : Str.ofString "\"" = ⟨#[34]⟩ := by decide +kernel
theorem sb : Str.ofString "\\" = ⟨#[92]⟩ := by decide +kernel
theorem item_q {x : Str} {n : Nat} (h : n < x.length) : (Txt.item x (n : Int) == Str.ofString "\"") = (cpAt x n == 34) := by rw [item_eq h, sq, one_beq]
theorem item_b {x : Str} {n : Nat} (h : n < x.length) : (Txt.item x (n : Int) == Str.ofString "\\") = (cpAt x n == 92) := by rw [item_eq h, sb, one_beq]
theorem item_c {x : Str} {n : Nat} (h : n < x.length) : (((Txt.item x (n : Int)).cps.getD 0 0 : Nat) : Int) = (cpAt x n : Int) := by rw [item_eq h]; rfl
theorem stop_q {x : Str} {n : Nat} (h : n < x.length) (q : (Txt.item x (n : Int) == Str.ofString "\"") = true) : isStop (cpAt x n) = true := by
  rw [item_q h] at q; unfold isStop; rw [q]; rfl
theorem stop_b {x : Str} {n : Nat} (h : n < x.length) (q : (Txt.item x (n : Int) == Str.ofString "\\") = true) : isStop (cpAt x n) = true := by
  rw [item_b h] at q; unfold isStop; rw [q]; simp
theorem stop_c {x : Str} {n : Nat} (h : n < x.length) (q : (((Txt.item x (n : Int)).cps.getD 0 0 : Nat) : Int) < 32) : isStop (cpAt x n) = true := by
  rw [item_c h] at q; unfold isStop; simp; omega
theorem stop_not {x : Str} {n : Nat} (h : n < x.length) (q1 : (Txt.item x (n : Int) == Str.ofString "\"") = false) (q2 : (Txt.item x (n : Int) == Str.ofString "\\") = false) (q3 : ¬ (((Txt.item x (n : Int)).cps.getD 0 0 : Nat) : Int) < 32) : isStop (cpAt x n) = false := by
  rw [item_q h] at q1; rw [item_b h] at q2; rw [item_c h] at q3; unfold isStop; rw [q1, q2]; simp; omega
end Mine
namespace Mine
def hexd (c : Nat) : Option Nat := if 48 ≤ c ∧ c ≤ 57 then some (c - 48) else if 97 ≤ c ∧ c ≤ 102 then some (c - 87) else if 65 ≤ c ∧ c ≤ 70 then some (c - 55) else none
def hexFold (x : Str) (k : Nat) : Nat → Option Nat
  | 0 => some 0
  | i + 1 => (hexFold x k i).bind fun n => (hexd (cpAt x (k + i))).map fun d => n * 16 + d
def hex4 (x : Str) (k : Nat) : Option Nat := if k + 4 ≤ x.length then hexFold x k 4 else none
end Mine
namespace Mine
def H22 : List Nat := [48, 49, 50, 51, 52, 53, 54, 55, 56, 57, 97, 98, 99, 100, 101, 102, 65, 66, 67, 68, 69, 70]
theorem hex_mem (c : Nat) : (hexd c).isSome = decide (c ∈ H22) := by
  unfold hexd H22
  rw [Bool.eq_iff_iff, decide_eq_true_eq]
  simp only [List.mem_cons, List.not_mem_nil, or_false]
  constructor
  · intro h
    split at h
    · omega
    · split at h
      · omega
      · split at h
        · omega
        · cases h
  · intro h
    split
    · rfl
    · split
      · rfl
      · split
        · rfl
        · omega
theorem s22 : Str.ofString "0123456789abcdefABCDEF" = ⟨H22.toArray⟩ := by decide +kernel
theorem hex_in (c : Nat) : Txt.contains (Str.ofString "0123456789abcdefABCDEF") ⟨#[c]⟩ = (hexd c).isSome := by
  unfold Txt.contains
  rw [found_one, s22, hex_mem]
theorem hex_low_all : H22.all (fun c => occurrences (Str.ofString "0123456789abcdef") (Txt.lower ⟨#[c]⟩) 0 (Str.ofString "0123456789abcdef").length 1 == (hexd c).toList) = true := by decide +kernel
theorem hex_low {c d : Nat} (h : hexd c = some d) : occurrences (Str.ofString "0123456789abcdef") (Txt.lower ⟨#[c]⟩) 0 (Str.ofString "0123456789abcdef").length 1 = [d] := by
  have hm : c ∈ H22 := by have := hex_mem c; rw [h] at this; simpa using this.symm
  have := List.all_eq_true.mp hex_low_all c hm
  rw [beq_iff_eq, h] at this
  exact this
theorem hex_find_all : H22.all (fun c => some (let p := Txt.find (Str.ofString "0123456789abcdefABCDEF") ⟨#[c]⟩; if p < 16 then p else p - 6) == (hexd c).map (fun d => (d : Int))) = true := by decide +kernel
theorem hex_find_some {c d : Nat} (h : hexd c = some d) : 0 ≤ Txt.find (Str.ofString "0123456789abcdefABCDEF") ⟨#[c]⟩ ∧ (if Txt.find (Str.ofString "0123456789abcdefABCDEF") ⟨#[c]⟩ < 16 then Txt.find (Str.ofString "0123456789abcdefABCDEF") ⟨#[c]⟩ else Txt.find (Str.ofString "0123456789abcdefABCDEF") ⟨#[c]⟩ - 6) = (d : Int) := by
  have hm : c ∈ H22 := by have := hex_mem c; rw [h] at this; simpa using this.symm
  have h2 := List.all_eq_true.mp hex_find_all c hm
  rw [beq_iff_eq, h] at h2
  refine ⟨?_, by simpa using h2⟩
  have h3 := hex_in c
  rw [h] at h3
  unfold Txt.contains at h3
  unfold Txt.find
  cases q : occurrences (Str.ofString "0123456789abcdefABCDEF") ⟨#[c]⟩ 0 (Str.ofString "0123456789abcdefABCDEF").length 1 with
  | nil => rw [q] at h3; cases h3
  | cons i r => exact Int.natCast_nonneg i
theorem hex_find_none {c : Nat} (h : hexd c = none) : Txt.find (Str.ofString "0123456789abcdefABCDEF") ⟨#[c]⟩ < 0 := by
  have h3 := hex_in c
  rw [h] at h3
  unfold Txt.contains at h3
  unfold Txt.find
  cases q : occurrences (Str.ofString "0123456789abcdefABCDEF") ⟨#[c]⟩ 0 (Str.ofString "0123456789abcdefABCDEF").length 1 with
  | nil => decide
  | cons i r => rw [q] at h3; cases h3
theorem hexd_lt {c d : Nat} (h : hexd c = some d) : d < 16 := by
  unfold hexd at h
  repeat' split at h
  all_goals first | (cases h; omega) | cases h
theorem hexFold_lt {x : Str} {k : Nat} : ∀ {i n}, hexFold x k i = some n → n < 16 ^ i
  | 0, n, h => by cases h; decide
  | i + 1, n, h => by
    unfold hexFold at h
    cases q : hexFold x k i with
    | none => rw [q] at h; cases h
    | some a =>
      cases r : hexd (cpAt x (k + i)) with
      | none => rw [q, r] at h; cases h
      | some d =>
        rw [q, r] at h
        cases h
        have h1 := hexFold_lt q
        have h2 := hexd_lt r
        rw [Nat.pow_succ]; show a * 16 + d < _; omega
theorem hexFold_none {x : Str} {k i : Nat} (h : hexd (cpAt x (k + i)) = none) : ∀ j, i < j → hexFold x k j = none
  | 0, hj => absurd hj (by omega)
  | j + 1, hj => by
    unfold hexFold
    by_cases e : i = j
    · subst e; rw [h]; cases hexFold x k i <;> rfl
    · rw [hexFold_none h j (by omega)]; rfl
theorem hex4_lt {x : Str} {k n : Nat} (h : hex4 x k = some n) : n < 65536 := by
  unfold hex4 at h
  split at h
  · exact hexFold_lt h
  · cases h
theorem hex4_le {x : Str} {k n : Nat} (h : hex4 x k = some n) : k + 4 ≤ x.length := by
  unfold hex4 at h
  split at h
  · assumption
  · cases h
theorem slice_at {x : Str} {k i j : Nat} (h : k + i < j) : cpAt (Txt.slice x (some (k : Int)) (some (j : Int))) i = cpAt x (k + i) := by
  unfold cpAt
  rw [← Array.getElem?_toList, slice_cps, ← Array.getElem?_toList, List.getElem?_take, if_pos (by omega), List.getElem?_drop]
end Mine
namespace Mine
theorem hexd_of_occ {c : Nat} (h : (occurrences (Str.ofString "0123456789abcdefABCDEF") ⟨#[c]⟩ 0 (Str.ofString "0123456789abcdefABCDEF").length 1).isEmpty = false) : ∃ d, hexd c = some d := by
  have h3 := hex_in c
  unfold Txt.contains at h3
  rw [h] at h3
  exact Option.isSome_iff_exists.mp h3.symm
theorem hexd_no_occ {c : Nat} (h : (occurrences (Str.ofString "0123456789abcdefABCDEF") ⟨#[c]⟩ 0 (Str.ofString "0123456789abcdefABCDEF").length 1).isEmpty = true) : hexd c = none := by
  have h3 := hex_in c
  unfold Txt.contains at h3
  rw [h] at h3
  exact Option.isSome_eq_false_iff.mp h3.symm |> Option.isNone_iff_eq_none.mp
theorem low_len_all : H22.all (fun c => !(tooLong (Txt.lower ⟨#[c]⟩).length)) = true := by decide +kernel
section
variable {prog : Program} {w : World} {A : Around} {E : Value → Shared → Prop} {s : Shared} {t u : Tok} {Q : Value → Shared → Prop}
theorem call_lower_hex {c d : Nat} (h : hexd c = some d) (hq : Q (.str (Txt.lower ⟨#[c]⟩) s.toks) { s with toks := s.toks + 1 }) : wpAny (model prog w) A (call (.builtin "str.lower") [.str ⟨#[c]⟩ t]) Q E s := by
  have hm : c ∈ H22 := by have := hex_mem c; rw [h] at this; simpa using this.symm
  have := List.all_eq_true.mp low_len_all c hm
  exact SC.lower (by simpa using this) hq
theorem call_index_hex {c d : Nat} (h : hexd c = some d) (hq : Q (.int (d : Int) s.toks) { s with toks := s.toks + 1 }) : wpAny (model prog w) A (call (.builtin "str.index") [.str (Str.ofString "0123456789abcdef") t, .str (Txt.lower ⟨#[c]⟩) u]) Q E s :=
  SC.index (hex_low h) hq
end
end Mine
namespace Mine
theorem slice4_len (x : Str) (k : Nat) : (Txt.slice x (some (k : Int)) (some ((k : Int) + 4))).length = min 4 (x.length - k) := by
  have := slice_len x k (k + 4)
  show (Txt.slice x (some (k : Int)) (some ((k + 4 : Nat) : Int))).length = _
  rw [this]; omega
theorem slice4_at {x : Str} {k i : Nat} (h : i < (Txt.slice x (some (k : Int)) (some ((k : Int) + 4))).length) : cpAt (Txt.slice x (some (k : Int)) (some ((k : Int) + 4))) i = cpAt x (k + i) := by
  rw [slice4_len] at h
  exact slice_at (j := k + 4) (by omega)
theorem hex4_short {x : Str} {k : Nat} (h : ((Txt.slice x (some (k : Int)) (some ((k : Int) + 4))).length : Int) ≠ 4) : hex4 x k = none := by
  rw [slice4_len] at h
  unfold hex4
  rw [if_neg (by omega)]
theorem hex4_bad {x : Str} {k i : Nat} (h : i < (Txt.slice x (some (k : Int)) (some ((k : Int) + 4))).length) (hd : hexd (cpAt (Txt.slice x (some (k : Int)) (some ((k : Int) + 4))) i) = none) : hex4 x k = none := by
  rw [slice4_at h] at hd
  rw [slice4_len] at h
  unfold hex4
  split
  · exact hexFold_none hd 4 (by omega)
  · rfl
theorem hex4_step {x : Str} {k i n d : Nat} (h : i < (Txt.slice x (some (k : Int)) (some ((k : Int) + 4))).length) (hn : hexFold x k i = some n) (hd : hexd (cpAt (Txt.slice x (some (k : Int)) (some ((k : Int) + 4))) i) = some d) : hexFold x k (i + 1) = some (n * 16 + d) := by
  rw [slice4_at h] at hd
  unfold hexFold
  rw [hn, hd]; rfl
theorem hex4_full {x : Str} {k n : Nat} (hl : ((Txt.slice x (some (k : Int)) (some ((k : Int) + 4))).length : Int) = 4) (h : hexFold x k (Txt.slice x (some (k : Int)) (some ((k : Int) + 4))).length = some n) : hex4 x k = some n := by
  have e : (Txt.slice x (some (k : Int)) (some ((k : Int) + 4))).length = 4 := by omega
  rw [e] at h
  rw [slice4_len] at hl
  unfold hex4
  rw [if_pos (by omega)]; exact h
end Mine
end

section
open PySem PySem.W PyProof.Rows PySem.Calls
set_option Elab.async false
set_option maxRecDepth 100000
set_option maxHeartbeats 4000000
namespace Mine
section
variable {prog : Program} {w : World} {A : Around} {E : Value → Shared → Prop} {Q : Flow → Shared → Prop} {s : Shared} {env : Env} {h₀ : Heap} {L : Addr}
def FPost {σ : Type} (h₀ : Heap) (L : Addr) (s : Shared) (ps : σ → List (Str × Value)) (P : Nat → σ → Prop) (Q : Flow → Shared → Prop) (own : List (Addr × Obj)) (i : Nat) (f : Flow) (s₂ : Shared) : Prop :=
  match f with
  | .ret v => Q (.ret v) s₂
  | .brk => Q .next s₂
  | _ => ∃ (c' : σ) (h' : Heap) (tk : Nat) (m' : Str → Option Value) (news' : List (Addr × Obj)), s₂ = { s with heap := h', toks := tk } ∧ Fr h₀ L h' m' ∧ News h₀ L h' news' ∧ (∀ p ∈ own, p ∈ news') ∧ KS m' (ps c') ∧ P (i + 1) c'
theorem FPost.turn {σ : Type} {ps : σ → List (Str × Value)} {P : Nat → σ → Prop} {own : List (Addr × Obj)} {i : Nat} (c' : σ) {h' : Heap} {tk : Nat} {m' : Str → Option Value} {news' : List (Addr × Obj)}
    (F : Fr h₀ L h' m') (N : News h₀ L h' news') (hl : ∀ p ∈ own, p ∈ news') (hk : KS m' (ps c')) (hp : P (i + 1) c') : FPost h₀ L s ps P Q own i .next { s with heap := h', toks := tk } :=
  ⟨c', h', tk, m', news', rfl, F, N, hl, hk, hp⟩
theorem for_my {σ : Type} {v : Str} {body : List Stmt} {I : Addr} {fp wr : List Addr} {n : Nat} {Pv : Nat → Value → Prop} {St : Nat → Heap → Prop} {m₀ : Str → Option Value} {news₀ : List (Addr × Obj)} (ps : σ → List (Str × Value)) (P : Nat → σ → Prop) (c₀ : σ)
    (W : Walks prog w A I fp wr n Pv St) (hLf : env.locals ∉ fp) (hwr : ∀ b ∈ wr, h₀.get? b = none) (hnw : ∀ p ∈ news₀, p.1 ∉ wr) (hst : St 0 s.heap) (F : Fr h₀ env.locals s.heap m₀) (N : News h₀ env.locals s.heap news₀) (hk : KS m₀ (ps c₀)) (h0 : P 0 c₀)
    (turn : ∀ i (c : σ) (u : Str → Option Value) h tk vi own, i < n → P i c → Pv i vi → Fr h₀ env.locals h (kstB u ((v, vi) :: ps c)) → News h₀ env.locals h own →
      wpAny (model prog w) A (execs body env) (FPost h₀ env.locals s ps P Q own i) E { s with heap := h, toks := tk })
    (hps : ∀ c, (ps c).all (fun p => p.1 != v) = true)
    (done : ∀ (c : σ) (u : Str → Option Value) h tk, P n c → Fr h₀ env.locals h (kstB u (ps c)) → News h₀ env.locals h news₀ → Q .next { s with heap := h, toks := tk }) :
    LoopAtV prog w A h₀ env v body Q E (.ref I) s := by
  refine ⟨I, fp, wr, n, Pv, St, m₀, news₀, (fun i m nx => nx = news₀ ∧ ∃ c, KS m (ps c) ∧ P i c), rfl, W, hLf, hwr, hnw, hst, F, N, ⟨rfl, c₀, hk, h0⟩, ?_, ?_⟩
  · rintro i vi m₁ news₁ s₁ own ⟨h, tk, rfl⟩ hi hPv ⟨rfl, c, hkc, hpc⟩ hoff _ _ _ _ F₁ N₁
    have em : kstB (fun y => if y = v then some vi else m₁ y) ((v, vi) :: ps c) = fun y => if y = v then some vi else m₁ y := by
      funext y
      refine kstB_eq (m₁ := fun y => if y = v then some vi else m₁ y) (fun p hp => ?_) fun _ => rfl
      rcases List.mem_cons.mp hp with rfl | hp
      · simp
      · have hne : p.1 ≠ v := by
          have := List.all_eq_true.mp (hps c) p hp
          simpa using this
        simp only [hne, if_false]
        exact hkc p hp
    refine wpAny_mono (turn i c _ h tk vi _ hi hpc hPv (by rw [em]; exact F₁) N₁) (fun f s₂ q => ?_) fun _ _ x => x
    cases f with
    | ret v => exact q
    | brk => exact q
    | next =>
      obtain ⟨c', h', tk', m', news', rfl, F', N', hn, hk9, hp9⟩ := q
      exact ⟨rfl, h', tk', m', news₁, rfl, F', fun p hp => N' p (hn p hp), hoff, rfl, c', hk9, hp9⟩
    | cont =>
      obtain ⟨c', h', tk', m', news', rfl, F', N', hn, hk9, hp9⟩ := q
      exact ⟨rfl, h', tk', m', news₁, rfl, F', fun p hp => N' p (hn p hp), hoff, rfl, c', hk9, hp9⟩
  · rintro h' tk m' news' F' N' _ ⟨rfl, c, hkc, hpc⟩
    have em : kstB m' (ps c) = m' := by
      funext y
      exact kstB_eq hkc fun _ => rfl
    exact done c m' h' tk hpc (by rw [em]; exact F') N'
theorem for_str {σ : Type} {v : Str} {px pos : Pos} {iter : Expr} {body : List Stmt} {x : Str} {t : Tok} {m₀ : Str → Option Value} {news₀ : List (Addr × Obj)} (ps : σ → List (Str × Value)) (P : Nat → σ → Prop) (c₀ : σ)
    (F : Fr h₀ env.locals s.heap m₀) (N : News h₀ env.locals s.heap news₀) (hx : env.kindOf v = some .local) (hp : (env.scope.kind == .class || (env.scope.kind == .module && env.locals != env.globals)) = false) (hh : A.handled = none)
    (hiter : ∀ Q' : Value → Shared → Prop, Q' (.str x t) s → wpAny (model prog w) A (eval iter env) Q' E s) (hk : KS m₀ (ps c₀)) (h0 : P 0 c₀)
    (hps : ∀ c, (ps c).all (fun p => p.1 != v) = true)
    (turn : ∀ i (c : σ) (u : Str → Option Value) h tk ct own, i < x.length → P i c → Fr h₀ env.locals h (kstB u ((v, .str ⟨#[cpAt x i]⟩ ct) :: ps c)) → News h₀ env.locals h own →
      wpAny (model prog w) A (execs body env) (FPost h₀ env.locals s ps P Q own i) E { s with heap := h, toks := tk })
    (done : ∀ (c : σ) (u : Str → Option Value) h tk, P x.length c → Fr h₀ env.locals h (kstB u (ps c)) → News h₀ env.locals h news₀ → Q .next { s with heap := h, toks := tk })
    (hs : ∀ y, foldedSetIterable iter env y = pure y := by intro _; rfl) (hE : PassesOwn (model prog w) A env E := by passes_own) :
    wpAny (model prog w) A (exec (.For (.Name v px) iter body [] pos) env) Q E s := by
  refine For_invV h₀ hx hp (hiter _ (wpAny_pyIter_str fun o St W hst => ?_)) hs hE
  have hsz : ∀ b o', s.heap.get? b = some o' → b ≠ s.heap.objs.size := fun b o' q => Nat.ne_of_lt (Heap.lt_size q)
  refine for_my (s := { s with heap := s.heap.push o }) ps P c₀ (W A hh) ?_ ?_ ?_ hst (F.push _) (fun p hp => ⟨Heap.get?_push_of_some _ (N p hp).1, (N p hp).2⟩) hk h0 ?_ hps ?_
  · obtain ⟨oL, _, _, hoL, _⟩ := F.ns
    simpa using hsz _ _ hoL
  · intro b hb
    rw [List.mem_singleton] at hb
    subst hb
    cases q : h₀.get? s.heap.objs.size with
    | none => rfl
    | some o' => exact absurd rfl (hsz _ _ (F.keep _ _ q))
  · intro p hp
    simpa using hsz _ _ (N p hp).1
  · rintro i c u h tk vi own hi hpc ⟨cc, ct, hcc, rfl⟩ F' N'
    have e : cpAt x i = cc := by unfold cpAt; rw [hcc]; rfl
    subst e
    exact turn i c u h tk ct own hi hpc F' N'
  · exact done
end
end Mine
namespace Mine
section
variable {prog : Program} {w : World} {A : Around} {E : Value → Shared → Prop} {Q : Flow → Shared → Prop} {s : Shared} {env : Env} {h₀ : Heap} {L : Addr}
def JPost {σ : Type} (h₀ : Heap) (L : Addr) (s : Shared) (ps : σ → List (Str × Value)) (Led : σ → List (Addr × Obj)) (P : σ → Prop) (f : Flow) (s₂ : Shared) : Prop :=
  f = .next ∧ ∃ (c : σ) (h' : Heap) (tk : Nat) (m' : Str → Option Value) (news' : List (Addr × Obj)), s₂ = { s with heap := h', toks := tk } ∧ Fr h₀ L h' m' ∧ News h₀ L h' news' ∧ (∀ p ∈ Led c, p ∈ news') ∧ KS m' (ps c) ∧ P c
theorem JPost.go {σ : Type} {ps : σ → List (Str × Value)} {Led : σ → List (Addr × Obj)} {P : σ → Prop} (c : σ) {h' : Heap} {tk : Nat} {m' : Str → Option Value} {news' : List (Addr × Obj)}
    (F : Fr h₀ L h' m') (N : News h₀ L h' news') (hl : ∀ p ∈ Led c, p ∈ news') (hk : KS m' (ps c)) (hp : P c) : JPost h₀ L s ps Led P .next { s with heap := h', toks := tk } :=
  ⟨rfl, c, h', tk, m', news', rfl, F, N, hl, hk, hp⟩
theorem join_my {σ : Type} {st : Stmt} {m₀ : Str → Option Value} {news₀ : List (Addr × Obj)} (ps : σ → List (Str × Value)) (Led : σ → List (Addr × Obj)) (P : σ → Prop) (c₀ : σ) (uF0 : Fr h₀ env.locals s.heap m₀) (uN0 : News h₀ env.locals s.heap news₀) (uhl0 : ∀ p ∈ Led c₀, p ∈ news₀) (uhk0 : KS m₀ (ps c₀))
    (h1 : wpAny (model prog w) A (exec st env) (JPost h₀ env.locals s ps Led P) E s)
    (h2 : ∀ (c : σ) (u : Str → Option Value) h tk, P c → Fr h₀ env.locals h (kstB u (ps c)) → News h₀ env.locals h (Led c) → Q .next { s with heap := h, toks := tk }) :
    wpAny (model prog w) A (exec st env) Q E s := by
  refine wpAny_mono h1 (fun f s₂ q => ?_) fun _ _ x => x
  obtain ⟨rfl, c, h', tk', m', news', rfl, F', N', hn, hk9, hp9⟩ := q
  have em : kstB m' (ps c) = m' := by
    funext y
    exact kstB_eq hk9 fun _ => rfl
  exact h2 c m' h' tk' hp9 (by rw [em]; exact F') (fun p hp => N' p (hn p hp))
theorem join2 {σ : Type} {st : Stmt} {m₀ : Str → Option Value} {news₀ : List (Addr × Obj)} (pc : σ → List (Str × Value)) (rest : List (Str × Value)) (led : List (Addr × Obj)) (P : σ → Prop) (uF0 : Fr h₀ env.locals s.heap m₀) (uN0 : News h₀ env.locals s.heap news₀) (uhl0 : ∀ p ∈ led, p ∈ news₀) (uhk0 : KS m₀ rest)
    (h1 : wpAny (model prog w) A (exec st env) (JPost h₀ env.locals s (fun c => pc c ++ rest) (fun _ => led) P) E s)
    (h2 : ∀ (c : σ) (u : Str → Option Value) h tk, P c → Fr h₀ env.locals h (kstB u (pc c ++ rest)) → News h₀ env.locals h led → Q .next { s with heap := h, toks := tk }) :
    wpAny (model prog w) A (exec st env) Q E s := by
  refine wpAny_mono h1 (fun f s₂ q => ?_) fun _ _ x => x
  obtain ⟨rfl, c, h', tk', m', news', rfl, F', N', hn, hk9, hp9⟩ := q
  have em : kstB m' (pc c ++ rest) = m' := by
    funext y
    exact kstB_eq hk9 fun _ => rfl
  exact h2 c m' h' tk' hp9 (by rw [em]; exact F') (fun p hp => N' p (hn p hp))
end
end Mine
namespace Mine
theorem ks_int {m : Str → Option Value} {a : Str} {i i' : Int} {t : Tok} {l : List (Str × Value)} (h : m a = some (.int i t)) (e : i = i') (tl : KS m l) : KS m ((a, .int i' t) :: l) := ks_cons (e ▸ h) tl
theorem hex_find_ge {c : Nat} (h : ¬ Txt.find (Str.ofString "0123456789abcdefABCDEF") ⟨#[c]⟩ < 0) : ∃ d, hexd c = some d ∧
    (if Txt.find (Str.ofString "0123456789abcdefABCDEF") ⟨#[c]⟩ < 16 then Txt.find (Str.ofString "0123456789abcdefABCDEF") ⟨#[c]⟩ else Txt.find (Str.ofString "0123456789abcdefABCDEF") ⟨#[c]⟩ - 6) = (d : Int) := by
  cases q : hexd c with
  | none => exact absurd (hex_find_none q) h
  | some d => exact ⟨d, rfl, (hex_find_some q).2⟩
theorem hex_find_lt {c : Nat} (h : Txt.find (Str.ofString "0123456789abcdefABCDEF") ⟨#[c]⟩ < 0) : hexd c = none := by
  cases q : hexd c with
  | none => rfl
  | some d => exact absurd h (by have := (hex_find_some q).1; omega)
end Mine
end

section
open PySem PySem.W PyProof.Rows PySem.Calls PySem.StrLaws
set_option Elab.async false
set_option maxRecDepth 100000
set_option maxHeartbeats 4000000
namespace Mine
local macro_rules | `(tactic| k_room) => `(tactic| exact Nat.le_of_ble_eq_true rfl)

local macro_rules | `(tactic| walk_at "exec While Compare cons nil") => `(tactic| refine Held.out ?_)

theorem match_chunk_spec {w : World} {gd : Option (List Code)} {base : Heap} {outer : List Env} {s : Shared} {mean : ExcName → Option Value} {mg mb : Str → Option Value} {R : Result → Shared → Prop}
    {x : Str} {t tk : Tok} {k : Nat} (C : Cx w mean mg mb base outer s.heap)
    (hx : x.length ≤ 1048576) (hk2 : k ≤ 1048576)
    (hR0 : ∀ h' tk', Keeps s.heap h' → (∀ i, k ≤ i → i < x.length → isStop (cpAt x i) = false) → R (.ok (.ret .none)) { s with heap := h', toks := tk' })
    (hR1 : ∀ (j : Nat) h' tk' D t1 t2 t3, Keeps s.heap h' → k ≤ j → j < x.length → isStop (cpAt x j) = true → (∀ i, k ≤ i → i < j → isStop (cpAt x i) = false) →
      s.heap.get? D = none → h'.get? D = some (tupOf [.str (Txt.slice x (some (k : Int)) (some (j : Int))) t1, .str (Txt.item x (j : Int)) t2, .int ((j : Int) + 1) t3]) → R (.ok (.ret (.ref D))) { s with heap := h', toks := tk' }) :
    codeAny (model Challenge.rw_ev0023_01.row.prog w) (Ar 800 800 gd outer) (.call (.ref 60) ⟨[.str x t, .int (k : Int) tk], []⟩) R s := by
  w_top off
  have B := C.below 800 gd
  have X := C.XH
  have T := C.TH
  revert X
  k_fill
  intro X
  refine' enter_def (binds := [("s", .str x t), ("end", .int (k : Int) tk)]) B X T ?k1 ?k2 ?k3 ?k4 ?k5 ?_ ?k6 ?k7 ?k8 ?k9
  case k1 => k_is
  case k2 => k_is
  case k3 => exact Nat.le_of_ble_eq_true rfl
  case k4 => first | exact BindsTo.of_eq rfl | exact binds_K X rfl (by k_is) rfl rfl rfl
  case k5 => exact locs rfl
  case k6 => decide
  case k7 => exact rfl
  case k8 => exact rfl
  case k9 => exact rfl
  clear B X T
  intro g L' h₁ hg F N B' X' T' hL
  try dsimp only
  k_fold
  rw [← hg] at C
  have hg0 : s.heap = g := hg.symm
  k_steps
  (rename Fr _ _ _ _ => F)
  (rename News _ _ _ _ => N)
  refine while_my (σ := Nat × Tok) (fun c => [("end", .int (c.1 : Int) c.2), ("s", .str x t), ("start", .int (k : Int) tk)]) (fun _ => []) (fun c => k ≤ c.1 ∧ c.1 ≤ 1048576 ∧ ∀ i, k ≤ i → i < c.1 → isStop (cpAt x i) = false) (fun c => (x.length - c.1)) (k, tk) F N ?_ ?_ ?_ ?_
  case refine_1 => intro p hp; cases hp
  case refine_2 => exact ks_cons rfl (ks_cons rfl (ks_cons rfl ks_nil))
  case refine_3 => exact ⟨Nat.le_refl _, hk2, fun i h1 h2 => absurd h1 (by omega)⟩
  clear F N
  intro c u h tk0 hp F N
  obtain ⟨n, tn⟩ := c
  obtain ⟨hp1, hp2, hp3⟩ := hp
  dsimp only [kstB] at hp1 hp2 hp3 F N ⊢
  k_fold
  k_steps
  all_goals (first | (with_reducible rename Fr _ _ _ _ => F9) | skip)
  all_goals (first | (with_reducible rename News _ _ _ _ => N9) | skip)
  all_goals subst hg
  · refine hR1 n _ _ _ _ _ _ F9.keep hp1 (by omega) (stop_q (by omega) (by assumption)) hp3 (N9 _ (List.mem_cons_self ..)).2.2 (N9 _ (List.mem_cons_self ..)).1
  · refine hR1 n _ _ _ _ _ _ F9.keep hp1 (by omega) (stop_b (by omega) (by assumption)) hp3 (N9 _ (List.mem_cons_self ..)).2.2 (N9 _ (List.mem_cons_self ..)).1
  · refine hR1 n _ _ _ _ _ _ F9.keep hp1 (by omega) (stop_c (by omega) (by assumption)) hp3 (N9 _ (List.mem_cons_self ..)).2.2 (N9 _ (List.mem_cons_self ..)).1
  · refine WPost.turn (n + 1, _) F9 N9 no_led (ks_cons rfl (ks_cons rfl (ks_cons rfl ks_nil))) ⟨by show k ≤ n + 1; omega, by show n + 1 ≤ 1048576; omega, fun i h1 h2 => ?_⟩ (by show x.length - (n + 1) < x.length - n; omega)
    by_cases e : i = n
    · subst e
      exact stop_not (by omega) (by assumption) (by assumption) (by assumption)
    · exact hp3 i h1 (by have : i < n + 1 := h2; omega)
  · exact hR0 _ _ F9.keep (fun i h1 h2 => hp3 i h1 (by omega))

/-- a call of match_chunk from a frame -/
theorem match_call {w : World} {gd : Option (List Code)} {base : Heap} {outer : List Env} {s : Shared} {mean : ExcName → Option Value} {mg mb : Str → Option Value} {g : Heap} {L : Addr} {m : Str → Option Value} {env : Env} {news : List (Addr × Obj)} {n : Nat} {E Q : Value → Shared → Prop}
    {x : Str} {t tk : Tok} {k : Nat} (C : Cx w mean mg mb base outer g) (F : Fr g L s.heap m) (N : News g L s.heap news) (hf : env.frame = some L) (hke : env.scope.kind = .function)
    (hx : x.length ≤ 1048576) (hk2 : k ≤ 1048576) (hn : n ≤ 790)
    (hR0 : ∀ h' tk', Fr g L h' m → News g L h' news → (∀ i, k ≤ i → i < x.length → isStop (cpAt x i) = false) → Q .none { s with heap := h', toks := tk' })
    (hR1 : ∀ (j : Nat) h' tk' D t1 t2 t3, Fr g L h' m → News g L h' ((D, tupOf [.str (Txt.slice x (some (k : Int)) (some (j : Int))) t1, .str (Txt.item x (j : Int)) t2, .int ((j : Int) + 1) t3]) :: news) → (∀ p ∈ news, p.1 ≠ D) →
      k ≤ j → j < x.length → isStop (cpAt x j) = true → (∀ i, k ≤ i → i < j → isStop (cpAt x i) = false) → Q (.ref D) { s with heap := h', toks := tk' }) :
    wpAny (model Challenge.rw_ev0023_01.row.prog w) ((Ar n n gd outer).deeper env) (call (.ref 60) [.str x t, .int (k : Int) tk] []) Q E s := by
  refine wpAny_call (codeAny_ctx (A' := Ar 800 800 gd (env :: outer)) (match_chunk_spec (C.deeper F hf hke) hx hk2 (fun h' tk' k1 q1 => ?_) (fun j h' tk' D t1 t2 t3 k1 q1 q2 q3 q4 q5 q6 => ?_)) rfl (by show n + 1 ≤ 800; omega) rfl rfl (by show n + 3 ≤ 800; omega))
  · exact hR0 h' tk' (F.keeps k1) (N.keeps k1) q1
  · obtain ⟨N1, n1⟩ := news_new F N k1 q5 q6
    exact hR1 j h' tk' D t1 t2 t3 (F.keeps k1) N1 n1 q1 q2 q3 q4
end Mine
end

section
open PySem PySem.W PyProof.Rows PySem.Calls PySem.StrLaws
set_option Elab.async false
set_option maxRecDepth 100000
set_option maxHeartbeats 4000000
namespace Mine
local macro_rules | `(tactic| k_room) => `(tactic| exact Nat.le_of_ble_eq_true rfl)

local macro_rules | `(tactic| walk_at "exec For Name Name") => `(tactic| refine Held.out ?_)
local macro_rules | `(tactic| walk_at "exec Raise some none") => `(tactic| refine exec_raise_own rfl ?_)
local macro_rules | `(tactic| walk_at "call ref") => `(tactic| (
  (with_reducible show wpAny _ _ (call (Value.ref 49) _ _) _ _ _)
  k_dflt (refine' jde_raise ?C ?F ?N rfl rfl ?h1 ?h2 ?h3 ?h4 ?h5 ?h6 ?_; (case C => assumption); (case F => k_asm); (case N => k_asm); (case h1 => decide); (case h2 => assumption); (case h3 => omega); (case h4 => omega); (case h5 => assumption); (case h6 => decide); k_whole)))
local macro_rules | `(tactic| walk_at "call builtin:str.lower") => `(tactic| (obtain ⟨dd', hd'⟩ := hexd_of_occ (by assumption); refine call_lower_hex hd' ?_))
local macro_rules | `(tactic| walk_at "call builtin:str.index") => `(tactic| ((rename (hexd _ = some _) => hd'); refine call_index_hex hd' ?_))

theorem scan_hex_spec {w : World} {gd : Option (List Code)} {base : Heap} {outer : List Env} {s : Shared} {mean : ExcName → Option Value} {mg mb : Str → Option Value} {R : Result → Shared → Prop}
    {x : Str} {t tk : Tok} {k : Nat} (C : Cx w mean mg mb base outer s.heap)
    (hx : x.length ≤ 1048576) (hk1 : 2 ≤ k) (hk2 : k ≤ x.length) (hc : ∀ c ∈ x.cps.toList, c < 1114112)
    (hR1 : ∀ n h' tk' D t1 t2, Keeps s.heap h' → hex4 x k = some n → s.heap.get? D = none → h'.get? D = some (tupOf [.int (n : Int) t1, .int ((k : Int) + 4) t2]) → R (.ok (.ret (.ref D))) { s with heap := h', toks := tk' })
    (hR2 : ∀ h' tk' e d, hex4 x k = none → Fly base s.heap outer e d (Str.ofString "Invalid \\uXXXX escape sequence") x ((k : Int) - 2) .none h' → R (.error (.ref e)) { s with heap := h', toks := tk' }) :
    codeAny (model Challenge.rw_ev0023_01.row.prog w) (Ar 800 800 gd outer) (.call (.ref 67) ⟨[.str x t, .int (k : Int) tk], []⟩) R s := by
  w_top off
  have B := C.below 800 gd
  have X := C.XH
  have T := C.TH
  revert X
  k_fill
  intro X
  refine' enter_def (binds := [("s", .str x t), ("end", .int (k : Int) tk)]) B X T ?k1 ?k2 ?k3 ?k4 ?k5 ?_ ?k6 ?k7 ?k8 ?k9
  case k1 => k_is
  case k2 => k_is
  case k3 => exact Nat.le_of_ble_eq_true rfl
  case k4 => first | exact BindsTo.of_eq rfl | exact binds_K X rfl (by k_is) rfl rfl rfl
  case k5 => exact locs rfl
  case k6 => decide
  case k7 => exact rfl
  case k8 => exact rfl
  case k9 => exact rfl
  clear B X T
  intro g L' h₁ hg F N B' X' T' hL
  try dsimp only
  k_fold
  rw [← hg] at C
  have hg0 : s.heap = g := hg.symm
  k_steps
  rotate_left
  (rename Fr _ _ _ _ => F)
  (rename News _ _ _ _ => N)
  (rename ((_ : Int) = 4) => hl)
  refine for_str (σ := Nat × Tok) (fun c => [("uni", .int (c.1 : Int) c.2), ("esc", .str (Txt.slice x (some (k : Int)) (some ((k : Int) + 4))) _), ("msg", .str (Str.ofString "Invalid \\uXXXX escape sequence") _), ("s", .str x t), ("end", .int (k : Int) _)]) (fun i c => hexFold x k i = some c.1) (0, _) F N rfl rfl rfl
    (fun Q' h => ld F rfl h) (ks_cons rfl (ks_cons rfl (ks_cons rfl (ks_cons rfl (ks_cons rfl ks_nil))))) rfl (fun c => rfl) ?_ ?_
  case refine_1 =>
    clear F N
    intro i c u h tk0 ct own hi hp F N
    obtain ⟨n, tn⟩ := c
    dsimp only [kstB] at hp F N ⊢
    (try k_fold)
    k_steps
    · subst hg
      exact hR2 _ _ _ _ (hex4_bad hi (hexd_no_occ (by assumption))) (by assumption)
    · (rename Fr _ _ _ _ => F9)
      (rename News _ _ _ _ => N9)
      (rename (hexd _ = some _) => hd9)
      exact FPost.turn (_, _) F9 N9 (fun _ h => h) (ks_cons rfl (ks_cons rfl (ks_cons rfl (ks_cons rfl (ks_cons rfl ks_nil))))) (hex4_step hi hp hd9)
  case refine_2 =>
    clear F N
    intro c u h tk0 hp F N
    obtain ⟨n, tn⟩ := c
    dsimp only [kstB] at hp F N ⊢
    (try k_fold)
    k_steps
    (rename Fr _ _ _ _ => F9)
    (rename News _ _ _ _ => N9)
    subst hg
    exact hR1 n _ _ _ _ _ F9.keep (hex4_full hl hp) (N9 _ (List.mem_cons_self ..)).2.2 (N9 _ (List.mem_cons_self ..)).1
  · subst hg
    exact hR2 _ _ _ _ (hex4_short (by assumption)) (by assumption)

/-- a call of scan_four_digit_hex from a frame -/
theorem scan_hex_call {w : World} {gd : Option (List Code)} {base : Heap} {outer : List Env} {s : Shared} {mean : ExcName → Option Value} {mg mb : Str → Option Value} {g : Heap} {L : Addr} {m : Str → Option Value} {env : Env} {news : List (Addr × Obj)} {n : Nat} {E Q : Value → Shared → Prop}
    {x : Str} {t tk : Tok} {k : Nat} (C : Cx w mean mg mb base outer g) (F : Fr g L s.heap m) (N : News g L s.heap news) (hf : env.frame = some L) (hke : env.scope.kind = .function)
    (hx : x.length ≤ 1048576) (hk1 : 2 ≤ k) (hk2 : k ≤ x.length) (hc : ∀ c ∈ x.cps.toList, c < 1114112) (hn : n ≤ 790)
    (hR1 : ∀ (v : Nat) h' tk' D t1 t2, Fr g L h' m → News g L h' ((D, tupOf [.int (v : Int) t1, .int ((k : Int) + 4) t2]) :: news) → (∀ p ∈ news, p.1 ≠ D) → hex4 x k = some v → Q (.ref D) { s with heap := h', toks := tk' })
    (hR2 : ∀ h' tk' e d, hex4 x k = none → Fly base s.heap (env :: outer) e d (Str.ofString "Invalid \\uXXXX escape sequence") x ((k : Int) - 2) .none h' → E (.ref e) { s with heap := h', toks := tk' }) :
    wpAny (model Challenge.rw_ev0023_01.row.prog w) ((Ar n n gd outer).deeper env) (call (.ref 67) [.str x t, .int (k : Int) tk] []) Q E s := by
  refine wpAny_call (codeAny_ctx (A' := Ar 800 800 gd (env :: outer)) (scan_hex_spec (C.deeper F hf hke) hx hk1 hk2 hc (fun v h' tk' D t1 t2 k1 q1 q2 q3 => ?_) (fun h' tk' e d q1 q2 => ?_)) rfl (by show n + 1 ≤ 800; omega) rfl rfl (by show n + 3 ≤ 800; omega))
  · obtain ⟨N1, n1⟩ := news_new F N k1 q2 q3
    exact hR1 v h' tk' D t1 t2 (F.keeps k1) N1 n1 q1
  · exact hR2 h' tk' e d q1 q2
theorem scan_hex_callE {w : World} {gd : Option (List Code)} {base : Heap} {outer : List Env} {s : Shared} {mean : ExcName → Option Value} {mg mb : Str → Option Value} {g : Heap} {L : Addr} {m : Str → Option Value} {env : Env} {news : List (Addr × Obj)} {n : Nat} {Q : Value → Shared → Prop} {R : Result → Shared → Prop}
    {x : Str} {t tk : Tok} {k : Int} (C : Cx w mean mg mb base outer g) (F : Fr g L s.heap m) (N : News g L s.heap news) (hf : env.frame = some L) (hke : env.scope.kind = .function)
    (hx : x.length ≤ 1048576) (hk1 : 2 ≤ k) (hk2 : k ≤ x.length) (hc : ∀ c ∈ x.cps.toList, c < 1114112) (hn : n ≤ 790)
    (hR1 : ∀ (kn v : Nat) h' tk' D t1 t2, (kn : Int) = k → Fr g L h' m → News g L h' ((D, tupOf [.int (v : Int) t1, .int (k + 4) t2]) :: news) → (∀ p ∈ news, p.1 ≠ D) → hex4 x kn = some v → v < 65536 → kn + 4 ≤ x.length → Q (.ref D) { s with heap := h', toks := tk' })
    (hR2 : ∀ (kn : Nat) h' tk' e d, (kn : Int) = k → hex4 x kn = none → Fly base g outer e d (Str.ofString "Invalid \\uXXXX escape sequence") x (k - 2) .none h' → R (.error (.ref e)) { s with heap := h', toks := tk' }) :
    wpAny (model Challenge.rw_ev0023_01.row.prog w) ((Ar n n gd outer).deeper env) (call (.ref 67) [.str x t, .int k tk] []) Q
      (fun e s' => wpAny (model Challenge.rw_ev0023_01.row.prog w) ((Ar n n gd outer).deeper env) (leaving env e) (fun _ s'' => R (.error e) s'') (fun e' s'' => R (.error e') s'') s') s := by
  obtain ⟨kn, rfl⟩ := Int.eq_ofNat_of_zero_le (a := k) (by omega)
  have hL : g.get? L = none := by
    cases q : g.get? L with
    | none => rfl
    | some o => exact absurd (Nat.lt_of_lt_of_le (Heap.lt_size q) F.above) (Nat.lt_irrefl _)
  refine scan_hex_call C F N hf hke hx (by omega) (by omega) hc hn (fun v h' tk' D t1 t2 a1 a2 a3 a4 => hR1 kn v h' tk' D t1 t2 rfl a1 a2 a3 a4 (hex4_lt a4) (hex4_le a4)) fun h' tk' e d a1 Y => ?_
  exact leaving_fly (s := ⟨h', s.gens, s.drawn, tk', s.os⟩) rfl hf Y F.keep hL C.stays C.frames fun h'' Y' => hR2 kn h'' tk' e d rfl a1 Y'
end Mine
end

section
open PySem PySem.W PyProof.Rows PySem.Calls PySem.StrLaws PySem.Builtin.Str
set_option Elab.async false
set_option maxRecDepth 100000
namespace Mine
inductive Res | no (msg : Str) (pos : Int) | is (acc : List Nat) (e : Nat) (lone : Bool)
def tbl (c : Nat) : Option Nat :=
  if c = 34 then some 34 else if c = 92 then some 92 else if c = 47 then some 47 else if c = 98 then some 8 else if c = 102 then some 12 else if c = 110 then some 10 else if c = 114 then some 13 else if c = 116 then some 9 else none
def MU : Str := Str.ofString "Unterminated string starting at"
def MX : Str := Str.ofString "Invalid \\X escape sequence %r"
def MH : Str := Str.ofString "Invalid \\uXXXX escape sequence"
def MC : Str := Str.ofString "Invalid control character %r at"
def pairAt (x : Str) (k : Nat) : Bool := decide (k + 1 < x.length) && cpAt x k == 92 && cpAt x (k + 1) == 117
def scan (x : Str) (strict : Bool) (a : Nat) (k : Nat) (acc : List Nat) (lone : Bool) : Res :=
  if hk : k < x.length then
    if cpAt x k = 34 then .is acc (k + 1) lone
    else if cpAt x k = 92 then
      if k + 1 < x.length then
        if cpAt x (k + 1) = 117 then
          match hex4 x (k + 2) with
          | none => .no MH (k : Int)
          | some n =>
            if n / 1024 = 54 ∧ pairAt x (k + 6) = true then
              match hex4 x (k + 8) with
              | none => .no MH ((k : Int) + 6)
              | some n2 => if n2 / 1024 = 55 then scan x strict a (k + 12) (acc ++ [65536 + (n % 1024 * 1024 + n2 % 1024)]) lone else scan x strict a (k + 6) (acc ++ [n]) true
            else scan x strict a (k + 6) (acc ++ [n]) (lone || n / 2048 == 27)
        else
          match tbl (cpAt x (k + 1)) with
          | some c => scan x strict a (k + 2) (acc ++ [c]) lone
          | none => .no MX ((k : Int) + 1)
      else .no MU ((a : Int) - 1)
    else if cpAt x k < 32 ∧ strict = true then .no MC (k : Int)
    else scan x strict a (k + 1) (acc ++ [cpAt x k]) lone
  else .no MU ((a : Int) - 1)
termination_by x.length - k

section
variable {x : Str} {strict : Bool} {a k : Nat} {acc : List Nat} {lone : Bool}
theorem scan_end (h : x.length ≤ k) : scan x strict a k acc lone = .no MU ((a : Int) - 1) := by
  rw [scan, dif_neg (by omega)]
theorem scan_quote (hk : k < x.length) (h : cpAt x k = 34) : scan x strict a k acc lone = .is acc (k + 1) lone := by
  rw [scan, dif_pos hk, if_pos h]
theorem scan_cut (h : cpAt x k = 92) (hk : x.length = k + 1) : scan x strict a k acc lone = .no MU ((a : Int) - 1) := by
  rw [scan, dif_pos (by omega), if_neg (by omega), if_pos h, if_neg (by omega)]
theorem scan_esc {c : Nat} (h : cpAt x k = 92) (hk : k + 1 < x.length) (hu : cpAt x (k + 1) ≠ 117) (ht : tbl (cpAt x (k + 1)) = some c) : scan x strict a k acc lone = scan x strict a (k + 2) (acc ++ [c]) lone := by
  rw [scan, dif_pos (by omega), if_neg (by omega), if_pos h, if_pos hk, if_neg hu, ht]
theorem scan_noesc (h : cpAt x k = 92) (hk : k + 1 < x.length) (hu : cpAt x (k + 1) ≠ 117) (ht : tbl (cpAt x (k + 1)) = none) : scan x strict a k acc lone = .no MX ((k : Int) + 1) := by
  rw [scan, dif_pos (by omega), if_neg (by omega), if_pos h, if_pos hk, if_neg hu, ht]
theorem scan_nohex (h : cpAt x k = 92) (hk : k + 1 < x.length) (hu : cpAt x (k + 1) = 117) (ht : hex4 x (k + 2) = none) : scan x strict a k acc lone = .no MH (k : Int) := by
  rw [scan, dif_pos (by omega), if_neg (by omega), if_pos h, if_pos hk, if_pos hu, ht]
theorem scan_one {n : Nat} (h : cpAt x k = 92) (hk : k + 1 < x.length) (hu : cpAt x (k + 1) = 117) (ht : hex4 x (k + 2) = some n) (hn : ¬ (n / 1024 = 54 ∧ pairAt x (k + 6) = true)) :
    scan x strict a k acc lone = scan x strict a (k + 6) (acc ++ [n]) (lone || n / 2048 == 27) := by
  rw [scan, dif_pos (by omega), if_neg (by omega), if_pos h, if_pos hk, if_pos hu, ht]
  simp only []
  rw [if_neg hn]
theorem scan_nohex2 {n : Nat} (h : cpAt x k = 92) (hk : k + 1 < x.length) (hu : cpAt x (k + 1) = 117) (ht : hex4 x (k + 2) = some n) (hn : n / 1024 = 54) (hp : pairAt x (k + 6) = true) (h2 : hex4 x (k + 8) = none) :
    scan x strict a k acc lone = .no MH ((k : Int) + 6) := by
  rw [scan, dif_pos (by omega), if_neg (by omega), if_pos h, if_pos hk, if_pos hu, ht]
  simp only []
  rw [if_pos ⟨hn, hp⟩, h2]
theorem scan_two {n n2 : Nat} (h : cpAt x k = 92) (hk : k + 1 < x.length) (hu : cpAt x (k + 1) = 117) (ht : hex4 x (k + 2) = some n) (hn : n / 1024 = 54) (hp : pairAt x (k + 6) = true) (h2 : hex4 x (k + 8) = some n2) (h3 : n2 / 1024 = 55) :
    scan x strict a k acc lone = scan x strict a (k + 12) (acc ++ [65536 + (n % 1024 * 1024 + n2 % 1024)]) lone := by
  rw [scan, dif_pos (by omega), if_neg (by omega), if_pos h, if_pos hk, if_pos hu, ht]
  simp only []
  rw [if_pos ⟨hn, hp⟩, h2]
  simp only []
  rw [if_pos h3]
theorem scan_half {n n2 : Nat} (h : cpAt x k = 92) (hk : k + 1 < x.length) (hu : cpAt x (k + 1) = 117) (ht : hex4 x (k + 2) = some n) (hn : n / 1024 = 54) (hp : pairAt x (k + 6) = true) (h2 : hex4 x (k + 8) = some n2) (h3 : n2 / 1024 ≠ 55) :
    scan x strict a k acc lone = scan x strict a (k + 6) (acc ++ [n]) true := by
  rw [scan, dif_pos (by omega), if_neg (by omega), if_pos h, if_pos hk, if_pos hu, ht]
  simp only []
  rw [if_pos ⟨hn, hp⟩, h2]
  simp only []
  rw [if_neg h3]
theorem scan_ctl (hk : k < x.length) (h1 : cpAt x k ≠ 34) (h2 : cpAt x k ≠ 92) (h3 : cpAt x k < 32) : scan x true a k acc lone = .no MC (k : Int) := by
  rw [scan, dif_pos hk, if_neg h1, if_neg h2, if_pos ⟨h3, rfl⟩]
theorem scan_sign (hk : k < x.length) (h1 : cpAt x k ≠ 34) (h2 : cpAt x k ≠ 92) (h3 : cpAt x k < 32 → strict = false) : scan x strict a k acc lone = scan x strict a (k + 1) (acc ++ [cpAt x k]) lone := by
  rw [scan, dif_pos hk, if_neg h1, if_neg h2, if_neg (by rintro ⟨q, r⟩; rw [h3 q] at r; cases r)]
theorem slice_self (k : Nat) : (Txt.slice x (some (k : Int)) (some (k : Int))).cps.toList = [] := by rw [slice_cps]; simp
theorem slice_snoc {j : Nat} (h : k ≤ j) (hj : j < x.length) : (Txt.slice x (some (k : Int)) (some ((j + 1 : Nat) : Int))).cps.toList = (Txt.slice x (some (k : Int)) (some (j : Int))).cps.toList ++ [cpAt x j] := by
  rw [slice_cps, slice_cps, show j + 1 - k = (j - k) + 1 by omega, List.take_add_one, List.getElem?_drop, show k + (j - k) = j by omega]
  congr 1
  unfold cpAt
  have hj' : j < x.cps.size := hj
  rw [Array.getElem?_eq_getElem hj', Array.getElem?_toList, Array.getElem?_eq_getElem hj']; rfl
theorem scan_run {j : Nat} (h : k ≤ j) (hj : j ≤ x.length) (hs : ∀ i, k ≤ i → i < j → isStop (cpAt x i) = false) :
    scan x strict a k acc lone = scan x strict a j (acc ++ (Txt.slice x (some (k : Int)) (some (j : Int))).cps.toList) lone := by
  induction j with
  | zero => obtain rfl : k = 0 := by omega
            rw [slice_self, List.append_nil]
  | succ j ih =>
    by_cases e : k = j + 1
    · subst e; rw [slice_self, List.append_nil]
    · rw [ih (by omega) (by omega) fun i h1 h2 => hs i h1 (by omega), slice_snoc (by omega) (by omega)]
      have hst := hs j (by omega) (by omega)
      unfold isStop at hst
      simp only [Bool.or_eq_false_iff, beq_eq_false_iff_ne, decide_eq_false_iff_not] at hst
      rw [scan_sign (k := j) (by omega) hst.1.1 hst.1.2 (fun q => absurd q hst.2), List.append_assoc]
end
end Mine
namespace Mine
theorem land_hi {v : Nat} (h : v < 65536) : v &&& 64512 = v / 1024 * 1024 := by
  apply Nat.eq_of_testBit_eq
  intro i
  rw [Nat.testBit_and, show (1024 : Nat) = 2 ^ 10 by rfl, Nat.testBit_mul_two_pow, Nat.testBit_div_two_pow]
  by_cases h16 : i < 16
  · have e : ∀ i < 16, Nat.testBit 64512 i = decide (10 ≤ i) := by decide
    rw [e i h16]
    by_cases h10 : 10 ≤ i
    · simp [h10]
    · simp [h10]
  · have e : v.testBit i = false := Nat.testBit_lt_two_pow (Nat.lt_of_lt_of_le h (Nat.pow_le_pow_right (n := 2) (i := 16) (j := i) (by omega) (by omega)))
    rw [e]
    by_cases h10 : 10 ≤ i
    · rw [show i - 10 + 10 = i by omega, e]; simp
    · omega
theorem land_lo {a b : Nat} (h : b < 1024) : a * 1024 &&& b = 0 := by
  apply Nat.eq_of_testBit_eq
  intro i
  rw [Nat.testBit_and, show (1024 : Nat) = 2 ^ 10 by rfl, Nat.testBit_mul_two_pow, Nat.zero_testBit]
  by_cases h10 : 10 ≤ i
  · have e : b.testBit i = false := Nat.testBit_lt_two_pow (Nat.lt_of_lt_of_le h (Nat.pow_le_pow_right (n := 2) (i := 10) (j := i) (by omega) h10))
    rw [e, Bool.and_false]
  · simp [h10]
theorem hi_eq {v : Nat} (h : v < 65536) : Builtin.bitAnd (v : Int) 64512 = ((v / 1024 * 1024 : Nat) : Int) := by
  rw [bitAnd_pp (Int.natCast_nonneg _) (by decide)]
  show (((v : Int).toNat &&& 64512 : Nat) : Int) = _
  rw [Int.toNat_natCast, land_hi h]
theorem or_eq {a b : Nat} (h : b < 1024) : Builtin.bitOr (((a * 1024 : Nat) : Int)) (b : Int) = ((a * 1024 + b : Nat) : Int) := by
  rw [bitOr_and, bitAnd_pp (Int.natCast_nonneg _) (Int.natCast_nonneg _), Int.toNat_natCast, Int.toNat_natCast, land_lo h]
  omega
theorem hi54 {v : Nat} (h : v < 65536) : Builtin.bitAnd (v : Int) 64512 = 55296 ↔ v / 1024 = 54 := by
  rw [hi_eq h]; omega
theorem hi55 {v : Nat} (h : v < 65536) : Builtin.bitAnd (v : Int) 64512 = 56320 ↔ v / 1024 = 55 := by
  rw [hi_eq h]; omega
theorem su : Str.ofString "\\u" = ⟨#[92, 117]⟩ := by decide +kernel
theorem pair_eq (x : Str) (n : Nat) : (Txt.slice x (some (n : Int)) (some ((n : Int) + 2)) == Str.ofString "\\u") = pairAt x n := by
  have hc : (Txt.slice x (some (n : Int)) (some ((n : Int) + 2))).cps.toList = (x.cps.toList.drop n).take 2 := by
    have := slice_cps x n (n + 2)
    rw [show n + 2 - n = 2 by omega] at this
    exact this
  rw [Bool.eq_iff_iff, beq_iff_eq, su]
  have e : Txt.slice x (some (n : Int)) (some ((n : Int) + 2)) = ⟨#[92, 117]⟩ ↔ (x.cps.toList.drop n).take 2 = [92, 117] := by
    rw [← hc]
    constructor
    · intro h; rw [h]
    · intro h
      generalize Txt.slice x (some (n : Int)) (some ((n : Int) + 2)) = y at h
      obtain ⟨cps⟩ := y
      obtain ⟨l⟩ := cps
      cases h; rfl
  rw [e]
  unfold pairAt cpAt
  simp only [Bool.and_eq_true, decide_eq_true_eq, beq_iff_eq]
  have hl : x.length = x.cps.toList.length := by simp [Str.length]
  have g1 : x.cps[n]? = (x.cps.toList.drop n)[0]? := by rw [List.getElem?_drop]; simp
  have g2 : x.cps[n + 1]? = (x.cps.toList.drop n)[1]? := by rw [List.getElem?_drop]; simp
  have gl : (x.cps.toList.drop n).length = x.length - n := by rw [List.length_drop, hl]
  rw [g1, g2]
  generalize x.cps.toList.drop n = l at gl
  constructor
  · intro h
    match l, gl, h with
    | [], _, h => cases h
    | [_], _, h => cases h
    | a :: b :: r, gl, h =>
      simp at h
      simp at gl
      refine ⟨⟨by omega, by simp [h.1]⟩, by simp [h.2]⟩
  · rintro ⟨⟨h0, h1⟩, h2⟩
    match l, gl, h1, h2 with
    | [], gl, h1, h2 => simp at gl; omega
    | [_], gl, h1, h2 => simp at gl; omega
    | a :: b :: r, gl, h1, h2 =>
      simp at h1 h2
      simp [h1, h2]
theorem pair_le {x : Str} {a : Int} (h0 : 0 ≤ a) (h : (Txt.slice x (some a) (some (a + 2)) == Str.ofString "\\u") = true) : a + 2 ≤ x.length := by
  obtain ⟨n, rfl⟩ := Int.eq_ofNat_of_zero_le h0
  rw [pair_eq] at h
  unfold pairAt at h
  simp only [Bool.and_eq_true, decide_eq_true_eq] at h
  omega
end Mine
namespace Mine
section
variable {x : Str} {strict : Bool} {a j : Nat} {acc : List Nat} {lone : Bool}
theorem two_val {v v2 : Nat} (h1 : v < 65536) (h2 : v2 < 65536) (h3 : Builtin.bitAnd (v : Int) 64512 = 55296) (h4 : Builtin.bitAnd (v2 : Int) 64512 = 56320) :
    (65536 + Builtin.bitOr (((v : Int) - 55296) * 2 ^ (10 : Int).toNat) ((v2 : Int) - 56320)) = ((65536 + (v % 1024 * 1024 + v2 % 1024) : Nat) : Int) := by
  have e3 := (hi54 h1).mp h3
  have e4 := (hi55 h2).mp h4
  have a1 : ((v : Int) - 55296) * 2 ^ (10 : Int).toNat = ((v % 1024 * 1024 : Nat) : Int) := by
    show ((v : Int) - 55296) * 1024 = _
    omega
  have a2 : (v2 : Int) - 56320 = ((v2 % 1024 : Nat) : Int) := by omega
  rw [a1, a2, or_eq (by omega)]
  omega
theorem chr_two {prog : Program} {w : World} {A : Around} {E : Value → Shared → Prop} {s : Shared} {t : Tok} {Q : Value → Shared → Prop} {v v2 : Nat} (h1 : v < 65536) (h2 : v2 < 65536) (h3 : Builtin.bitAnd (v : Int) 64512 = 55296) (h4 : Builtin.bitAnd (v2 : Int) 64512 = 56320)
    (hq : Q (.str ⟨#[65536 + (v % 1024 * 1024 + v2 % 1024)]⟩ s.toks) { s with toks := s.toks + 1 }) :
    wpAny (model prog w) A (call (.builtin "chr") [.int (65536 + Builtin.bitOr (((v : Int) - 55296) * 2 ^ (10 : Int).toNat) ((v2 : Int) - 56320)) t]) Q E s := by
  rw [two_val h1 h2 h3 h4]
  exact chr_of_range (by omega) (by omega) hq
theorem item_bne (hj : j < x.length) (q : (Txt.item x (j : Int) != Str.ofString "\\") = false) : cpAt x j = 92 := by
  have := item_b hj
  rw [bne_eq_false_iff_eq] at q
  rw [q, beq_self_eq_true] at this
  simpa using this.symm
theorem item_bne' (hj : j < x.length) (q : (Txt.item x (j : Int) != Str.ofString "\\") = true) : cpAt x j ≠ 92 := by
  have := item_b hj
  rw [bne_iff_ne] at q
  rw [beq_eq_false_iff_ne.mpr q] at this
  simpa using this.symm
theorem item_qt (hj : j < x.length) (q : (Txt.item x (j : Int) == Str.ofString "\"") = true) : cpAt x j = 34 := by
  rw [item_q hj] at q; simpa using q
theorem item_qf (hj : j < x.length) (q : (Txt.item x (j : Int) == Str.ofString "\"") = false) : cpAt x j ≠ 34 := by
  rw [item_q hj] at q; simpa using q
theorem item_is {c : Nat} (hj : j + 1 < x.length) (q : Txt.item x ((j : Int) + 1) = ⟨#[c]⟩) : cpAt x (j + 1) = c := by
  have := item_eq hj
  rw [show ((j + 1 : Nat) : Int) = (j : Int) + 1 by omega, q] at this
  simpa using this.symm
theorem item_ne {c : Nat} (hj : j + 1 < x.length) (q : ¬ Txt.item x ((j : Int) + 1) = ⟨#[c]⟩) : cpAt x (j + 1) ≠ c := by
  intro h
  have := item_eq hj
  rw [show ((j + 1 : Nat) : Int) = (j : Int) + 1 by omega, h] at this
  exact q this
theorem s_u : Str.ofString "u" = ⟨#[117]⟩ := by decide +kernel
theorem item_u (hj : j + 1 < x.length) (q : (Txt.item x ((j : Int) + 1) != Str.ofString "u") = false) : cpAt x (j + 1) = 117 := by
  rw [bne_eq_false_iff_eq, s_u] at q
  exact item_is hj q
theorem item_nu (hj : j + 1 < x.length) (q : (Txt.item x ((j : Int) + 1) != Str.ofString "u") = true) : cpAt x (j + 1) ≠ 117 := by
  rw [bne_iff_ne, s_u] at q
  exact item_ne hj q
theorem stop_ctl (h : isStop (cpAt x j) = true) (h1 : cpAt x j ≠ 34) (h2 : cpAt x j ≠ 92) : cpAt x j < 32 := by
  unfold isStop at h
  simp only [Bool.or_eq_true, beq_iff_eq, decide_eq_true_eq] at h
  rcases h with (h | h) | h
  · exact absurd h h1
  · exact absurd h h2
  · exact h
theorem esc_tbl {c d : Nat} (hb : cpAt x j = 92) (hj : j + 1 < x.length) (q : Txt.item x ((j : Int) + 1) = ⟨#[c]⟩) (hc : c ≠ 117) (ht : tbl c = some d) :
    j + 1 < j + 1 + 1 ∧ j + 1 + 1 ≤ x.length ∧ ∀ acc, scan x strict a j acc lone = scan x strict a (j + 1 + 1) (acc ++ [d]) lone :=
  have h := item_is hj q
  ⟨by omega, by omega, fun acc => scan_esc hb hj (by rw [h]; exact hc) (by rw [h]; exact ht)⟩
theorem esc_none (hb : cpAt x j = 92) (hj : j + 1 < x.length) (hu : (Txt.item x ((j : Int) + 1) != Str.ofString "u") = true)
    (q : (decide (Txt.item x ((j : Int) + 1) = ⟨#[34]⟩) || (decide (Txt.item x ((j : Int) + 1) = ⟨#[92]⟩) || (decide (Txt.item x ((j : Int) + 1) = ⟨#[47]⟩) || (decide (Txt.item x ((j : Int) + 1) = ⟨#[98]⟩) || (decide (Txt.item x ((j : Int) + 1) = ⟨#[102]⟩) || (decide (Txt.item x ((j : Int) + 1) = ⟨#[110]⟩) || (decide (Txt.item x ((j : Int) + 1) = ⟨#[114]⟩) || (decide (Txt.item x ((j : Int) + 1) = ⟨#[116]⟩) || false)))))))) = false) :
    scan x strict a j acc lone = .no MX ((j : Int) + 1) := by
  simp only [Bool.or_eq_false_iff, decide_eq_false_iff_not] at q
  obtain ⟨q1, q2, q3, q4, q5, q6, q7, q8, _⟩ := q
  refine scan_noesc hb hj (item_nu hj hu) ?_
  unfold tbl
  rw [if_neg (item_ne hj q1), if_neg (item_ne hj q2), if_neg (item_ne hj q3), if_neg (item_ne hj q4), if_neg (item_ne hj q5), if_neg (item_ne hj q6), if_neg (item_ne hj q7), if_neg (item_ne hj q8)]
theorem esc_nohex {kn : Nat} (hb : cpAt x j = 92) (hj : j + 1 < x.length) (hu : (Txt.item x ((j : Int) + 1) != Str.ofString "u") = false) (hkn : (kn : Int) = (j : Int) + 1 + 1) (h : hex4 x kn = none) :
    scan x strict a j acc lone = .no MH (j : Int) := by
  obtain rfl : kn = j + 2 := by omega
  exact scan_nohex hb hj (item_u hj hu) h
theorem esc_one {kn v : Nat} (hb : cpAt x j = 92) (hj : j + 1 < x.length) (hu : (Txt.item x ((j : Int) + 1) != Str.ofString "u") = false) (hkn : (kn : Int) = (j : Int) + 1 + 1) (h : hex4 x kn = some v) (h3 : Builtin.bitAnd (v : Int) 64512 ≠ 55296) :
    j + 1 < j + 1 + 1 + 4 ∧ j + 1 + 1 + 4 ≤ x.length ∧ ∀ acc, scan x strict a j acc lone = scan x strict a (j + 1 + 1 + 4) (acc ++ [v]) (lone || v / 2048 == 27) := by
  obtain rfl : kn = j + 2 := by omega
  exact ⟨by omega, hex4_le h, fun acc => scan_one hb hj (item_u hj hu) h fun z => h3 ((hi54 (hex4_lt h)).mpr z.1)⟩
theorem pair_at {n : Nat} {i : Int} (hn : i = (n : Int)) : (Txt.slice x (some i) (some (i + 2)) == Str.ofString "\\u") = pairAt x n := by
  subst hn; exact pair_eq x n
theorem esc_nopair {kn v : Nat} (hb : cpAt x j = 92) (hj : j + 1 < x.length) (hu : (Txt.item x ((j : Int) + 1) != Str.ofString "u") = false) (hkn : (kn : Int) = (j : Int) + 1 + 1) (h : hex4 x kn = some v)
    (h3 : (Txt.slice x (some ((j : Int) + 1 + 1 + 4)) (some ((j : Int) + 1 + 1 + 4 + 2)) == Str.ofString "\\u") = false) :
    j + 1 < j + 1 + 1 + 4 ∧ j + 1 + 1 + 4 ≤ x.length ∧ ∀ acc, scan x strict a j acc lone = scan x strict a (j + 1 + 1 + 4) (acc ++ [v]) (lone || v / 2048 == 27) := by
  obtain rfl : kn = j + 2 := by omega
  rw [pair_at (n := j + 6) (by omega)] at h3
  exact ⟨by omega, hex4_le h, fun acc => scan_one hb hj (item_u hj hu) h fun z => by rw [h3] at z; cases z.2⟩
theorem esc_nohex2 {kn v kn2 : Nat} (hb : cpAt x j = 92) (hj : j + 1 < x.length) (hu : (Txt.item x ((j : Int) + 1) != Str.ofString "u") = false) (hkn : (kn : Int) = (j : Int) + 1 + 1) (h : hex4 x kn = some v)
    (h1 : Builtin.bitAnd (v : Int) 64512 = 55296) (h3 : (Txt.slice x (some ((j : Int) + 1 + 1 + 4)) (some ((j : Int) + 1 + 1 + 4 + 2)) == Str.ofString "\\u") = true) (hkn2 : (kn2 : Int) = (j : Int) + 1 + 1 + 4 + 2) (h2 : hex4 x kn2 = none) :
    scan x strict a j acc lone = .no MH ((j : Int) + 6) := by
  obtain rfl : kn = j + 2 := by omega
  obtain rfl : kn2 = j + 8 := by omega
  rw [pair_at (n := j + 6) (by omega)] at h3
  exact scan_nohex2 hb hj (item_u hj hu) h ((hi54 (hex4_lt h)).mp h1) h3 h2
theorem esc_half {kn v kn2 v2 : Nat} (hb : cpAt x j = 92) (hj : j + 1 < x.length) (hu : (Txt.item x ((j : Int) + 1) != Str.ofString "u") = false) (hkn : (kn : Int) = (j : Int) + 1 + 1) (h : hex4 x kn = some v)
    (h1 : Builtin.bitAnd (v : Int) 64512 = 55296) (h3 : (Txt.slice x (some ((j : Int) + 1 + 1 + 4)) (some ((j : Int) + 1 + 1 + 4 + 2)) == Str.ofString "\\u") = true) (hkn2 : (kn2 : Int) = (j : Int) + 1 + 1 + 4 + 2) (h2 : hex4 x kn2 = some v2)
    (h4 : Builtin.bitAnd (v2 : Int) 64512 ≠ 56320) :
    j + 1 < j + 1 + 1 + 4 ∧ j + 1 + 1 + 4 ≤ x.length ∧ ∀ acc, scan x strict a j acc lone = scan x strict a (j + 1 + 1 + 4) (acc ++ [v]) true := by
  obtain rfl : kn = j + 2 := by omega
  obtain rfl : kn2 = j + 8 := by omega
  rw [pair_at (n := j + 6) (by omega)] at h3
  exact ⟨by omega, hex4_le h, fun acc => scan_half hb hj (item_u hj hu) h ((hi54 (hex4_lt h)).mp h1) h3 h2 fun z => h4 ((hi55 (hex4_lt h2)).mpr z)⟩
theorem esc_two {kn v kn2 v2 : Nat} (hb : cpAt x j = 92) (hj : j + 1 < x.length) (hu : (Txt.item x ((j : Int) + 1) != Str.ofString "u") = false) (hkn : (kn : Int) = (j : Int) + 1 + 1) (h : hex4 x kn = some v)
    (h1 : Builtin.bitAnd (v : Int) 64512 = 55296) (h3 : (Txt.slice x (some ((j : Int) + 1 + 1 + 4)) (some ((j : Int) + 1 + 1 + 4 + 2)) == Str.ofString "\\u") = true) (hkn2 : (kn2 : Int) = (j : Int) + 1 + 1 + 4 + 2) (h2 : hex4 x kn2 = some v2)
    (h4 : Builtin.bitAnd (v2 : Int) 64512 = 56320) :
    j + 1 < j + 1 + 1 + 4 + 2 + 4 ∧ j + 1 + 1 + 4 + 2 + 4 ≤ x.length ∧ ∀ acc, scan x strict a j acc lone = scan x strict a (j + 1 + 1 + 4 + 2 + 4) (acc ++ [65536 + (v % 1024 * 1024 + v2 % 1024)]) lone := by
  obtain rfl : kn = j + 2 := by omega
  obtain rfl : kn2 = j + 8 := by omega
  rw [pair_at (n := j + 6) (by omega)] at h3
  exact ⟨by omega, hex4_le h2, fun acc => scan_two hb hj (item_u hj hu) h ((hi54 (hex4_lt h)).mp h1) h3 h2 ((hi55 (hex4_lt h2)).mp h4)⟩
end
end Mine
end

section
open PySem PySem.W PyProof.Rows PySem.Calls PySem.StrLaws PySem.Builtin.Str
set_option Elab.async false
set_option maxRecDepth 100000
namespace Mine
def flatS (l : List (Str × Tok)) : List Nat := (l.map fun p => p.1.cps.toList).flatten
theorem flatS_snoc (l : List (Str × Tok)) (y : Str) (ty : Tok) : flatS (l ++ [(y, ty)]) = flatS l ++ y.cps.toList := by
  unfold flatS
  rw [List.map_append, List.flatten_append]
  simp
abbrev T8 : Str := Str.ofString "\"\\/bfnrt"
abbrev V8 : Str := Str.ofString "\"\\/\x08\x0c\n\r\t"
def L8 : List Nat := [34, 92, 47, 98, 102, 110, 114, 116]
theorem t8 : T8 = ⟨L8.toArray⟩ := by decide +kernel
theorem tbl_mem (c : Nat) : (tbl c).isSome = decide (c ∈ L8) := by
  unfold tbl L8
  rw [Bool.eq_iff_iff, decide_eq_true_eq]
  simp only [List.mem_cons, List.not_mem_nil, or_false]
  constructor
  · intro h
    repeat' split at h
    all_goals first | omega | cases h
  · intro h
    repeat' split
    all_goals first | rfl | omega
theorem find8_all : L8.all (fun c => decide (0 ≤ Txt.find T8 ⟨#[c]⟩) && some (Txt.item V8 (Txt.find T8 ⟨#[c]⟩)) == (tbl c).map (fun d => (⟨#[d]⟩ : Str))) = true := by decide +kernel
theorem find8_none {c : Nat} (h : Txt.find T8 ⟨#[c]⟩ < 0) : tbl c = none := by
  cases q : tbl c with
  | none => rfl
  | some d =>
    have hm : c ∈ L8 := by have := tbl_mem c; rw [q] at this; simpa using this.symm
    have := List.all_eq_true.mp find8_all c hm
    simp only [Bool.and_eq_true, decide_eq_true_eq] at this
    omega
theorem find8_some {c : Nat} (h : ¬ Txt.find T8 ⟨#[c]⟩ < 0) : ∃ d, tbl c = some d ∧ Txt.item V8 (Txt.find T8 ⟨#[c]⟩) = ⟨#[d]⟩ := by
  have hm : c ∈ L8 := by
    have hf := found_one T8 c
    unfold Txt.find at h
    cases q : occurrences T8 ⟨#[c]⟩ 0 T8.length 1 with
    | nil => rw [q] at h; exact absurd (by decide) h
    | cons i r =>
      rw [q] at hf
      have h2 : c ∈ T8.cps.toList := by simpa using hf
      rw [t8] at h2
      exact h2
  have := List.all_eq_true.mp find8_all c hm
  simp only [Bool.and_eq_true, decide_eq_true_eq, beq_iff_eq] at this
  cases q : tbl c with
  | none => have := tbl_mem c; rw [q] at this; simp [hm] at this
  | some d =>
    rw [q] at this
    exact ⟨d, rfl, Option.some.inj this.2⟩
theorem find8_lt {y : Str} (h : ¬ Txt.find T8 y < 0) (hne : (y == Str.ofString "") = false) : 0 ≤ Txt.find T8 y ∧ Txt.find T8 y < 8 := by
  have hl : T8.length = 8 := by decide +kernel
  have hy : 1 ≤ y.length := by
    have e0 : Str.ofString "" = ⟨#[]⟩ := by decide +kernel
    rw [beq_eq_false_iff_ne, e0] at hne
    have : y.length ≠ 0 := fun z => hne (by
      obtain ⟨c⟩ := y
      have : c.size = 0 := z
      rw [Array.eq_empty_of_size_eq_zero this])
    omega
  unfold Txt.find at h ⊢
  rcases occ_head T8 y 1 (by omega) with ⟨h0, _⟩ | ⟨i, r, e, ha, _⟩
  · rw [h0] at h; exact absurd (by decide) h
  · rw [e]
    show 0 ≤ (i : Int) ∧ (i : Int) < 8
    have := ha.1
    rw [hl] at this
    omega
theorem v8_len : V8.length = 8 := by decide +kernel
theorem v8_fits {y : Str} (h : ¬ Txt.find T8 y < 0) (hne : (y == Str.ofString "") = false) : fitsSsize (Txt.find T8 y) = true := by
  have := find8_lt h hne
  exact fitsSsize_of (N := 9223372036854775808) (by omega) (by omega) (Int.le_refl _)
theorem v8_lo {y : Str} (h : ¬ Txt.find T8 y < 0) (hne : (y == Str.ofString "") = false) : -(V8.length : Int) ≤ Txt.find T8 y := by
  have := find8_lt h hne; have := v8_len; omega
theorem v8_hi {y : Str} (h : ¬ Txt.find T8 y < 0) (hne : (y == Str.ofString "") = false) : Txt.find T8 y < (V8.length : Int) := by
  have := find8_lt h hne; have := v8_len; omega
section
variable {x : Str} {strict : Bool} {a k : Nat} {acc : List Nat} {lone : Bool}
theorem one_cps (x : Str) (k : Nat) : (Txt.slice x (some ((k : Int) + 1)) (some ((k : Int) + 2))).cps.toList = (x.cps.toList.drop (k + 1)).take 1 := by
  have := slice_cps x (k + 1) (k + 2)
  rw [show k + 2 - (k + 1) = 1 by omega] at this
  exact this
theorem one_some (h : k + 1 < x.length) : Txt.slice x (some ((k : Int) + 1)) (some ((k : Int) + 2)) = ⟨#[cpAt x (k + 1)]⟩ := by
  have := one_cps x k
  have e : (x.cps.toList.drop (k + 1)).take 1 = [cpAt x (k + 1)] := by
    have h' : k + 1 < x.cps.toList.length := by simpa [Str.length] using h
    rw [List.drop_eq_getElem_cons h']
    unfold cpAt
    have h2 : k + 1 < x.cps.size := h
    simp [h2]
  rw [e] at this
  generalize Txt.slice x (some ((k : Int) + 1)) (some ((k : Int) + 2)) = y at this
  obtain ⟨⟨l⟩⟩ := y
  cases this; rfl
theorem one_empty (hk : k < x.length) (h : (Txt.slice x (some ((k : Int) + 1)) (some ((k : Int) + 2)) == Str.ofString "") = true) : x.length = k + 1 := by
  by_cases q : k + 1 < x.length
  · rw [one_some q] at h
    have e0 : Str.ofString "" = ⟨#[]⟩ := by decide +kernel
    rw [e0, beq_iff_eq] at h
    cases h
  · omega
theorem one_lt (h : (Txt.slice x (some ((k : Int) + 1)) (some ((k : Int) + 2)) == Str.ofString "") = false) : k + 1 < x.length := by
  by_cases q : k + 1 < x.length
  · exact q
  · exfalso
    have := one_cps x k
    rw [List.drop_eq_nil_of_le (by simpa [Str.length] using Nat.le_of_not_lt q)] at this
    have e0 : Str.ofString "" = ⟨#[]⟩ := by decide +kernel
    rw [e0, beq_eq_false_iff_ne] at h
    apply h
    generalize Txt.slice x (some ((k : Int) + 1)) (some ((k : Int) + 2)) = y at this
    obtain ⟨⟨l⟩⟩ := y
    cases this; rfl
theorem one_u (hk : k + 1 < x.length) (h : (Txt.slice x (some ((k : Int) + 1)) (some ((k : Int) + 2)) != Str.ofString "u") = false) : cpAt x (k + 1) = 117 := by
  rw [one_some hk, s_u, bne_eq_false_iff_eq] at h
  simpa using h
theorem one_nu (hk : k + 1 < x.length) (h : (Txt.slice x (some ((k : Int) + 1)) (some ((k : Int) + 2)) != Str.ofString "u") = true) : cpAt x (k + 1) ≠ 117 := by
  rw [one_some hk, s_u, bne_iff_ne] at h
  intro z; rw [z] at h; exact h rfl
theorem fd_nat (v : Nat) (n : Nat) : Int.fdiv (v : Int) (n : Int) = ((v / n : Nat) : Int) := by
  rw [Int.fdiv_eq_ediv_of_nonneg _ (Int.natCast_nonneg n)]; rfl
theorem fm_nat (v : Nat) (n : Nat) : Int.fmod (v : Int) (n : Int) = ((v % n : Nat) : Int) := by
  rw [Int.fmod_eq_emod_of_nonneg _ (Int.natCast_nonneg n)]; rfl
theorem fd1024 (v : Nat) : Int.fdiv (v : Int) 1024 = ((v / 1024 : Nat) : Int) := fd_nat v 1024
theorem fd2048 (v : Nat) : Int.fdiv (v : Int) 2048 = ((v / 2048 : Nat) : Int) := fd_nat v 2048
theorem fd_beq {N : Int} {num : Nat} (hN : N = (num : Int)) : (Int.fdiv N 2048 == 27) = (num / 2048 == 27) := by
  rw [hN, fd2048, Bool.eq_iff_iff, beq_iff_eq, beq_iff_eq]; omega
theorem two_num {v v2 : Nat} : (65536 + Int.fmod (v : Int) 1024 * 1024 + Int.fmod (v2 : Int) 1024) = ((65536 + (v % 1024 * 1024 + v2 % 1024) : Nat) : Int) := by
  have e1 : Int.fmod (v : Int) 1024 = ((v % 1024 : Nat) : Int) := fm_nat v 1024
  have e2 : Int.fmod (v2 : Int) 1024 = ((v2 % 1024 : Nat) : Int) := fm_nat v2 1024
  rw [e1, e2]; omega
theorem ls_two {kn v kn2 v2 : Nat} (hb : cpAt x k = 92) (hk : k + 1 < x.length) (hu : cpAt x (k + 1) = 117) (hkn : (kn : Int) = (k : Int) + 2) (h : hex4 x kn = some v) (h1 : Int.fdiv (v : Int) 1024 = 54)
    (h3 : (Txt.slice x (some ((k : Int) + 6)) (some ((k : Int) + 6 + 2)) == Str.ofString "\\u") = true) (hkn2 : (kn2 : Int) = (k : Int) + 6 + 2) (h2 : hex4 x kn2 = some v2) (h4 : Int.fdiv (v2 : Int) 1024 = 55) :
    ∃ num : Nat, (65536 + Int.fmod (v : Int) 1024 * 1024 + Int.fmod (v2 : Int) 1024) = (num : Int) ∧ k + 6 + 6 ≤ x.length ∧ ∀ acc lone, scan x strict a k acc lone = scan x strict a (k + 6 + 6) (acc ++ [num]) (lone || num / 2048 == 27) := by
  obtain rfl : kn = k + 2 := by omega
  obtain rfl : kn2 = k + 8 := by omega
  rw [pair_at (n := k + 6) (by omega)] at h3
  rw [fd1024] at h1 h4
  refine ⟨_, two_num, hex4_le h2, fun acc lone => ?_⟩
  rw [scan_two hb hk hu h (by omega) h3 h2 (by omega)]
  have : ((65536 + (v % 1024 * 1024 + v2 % 1024)) / 2048 == 27) = false := by
    rw [beq_eq_false_iff_ne]; omega
  rw [this, Bool.or_false]
theorem ls_half {kn v kn2 v2 : Nat} (hb : cpAt x k = 92) (hk : k + 1 < x.length) (hu : cpAt x (k + 1) = 117) (hkn : (kn : Int) = (k : Int) + 2) (h : hex4 x kn = some v) (h1 : Int.fdiv (v : Int) 1024 = 54)
    (h3 : (Txt.slice x (some ((k : Int) + 6)) (some ((k : Int) + 6 + 2)) == Str.ofString "\\u") = true) (hkn2 : (kn2 : Int) = (k : Int) + 6 + 2) (h2 : hex4 x kn2 = some v2) (h4 : Int.fdiv (v2 : Int) 1024 ≠ 55) :
    k + 6 ≤ x.length ∧ ∀ acc lone, scan x strict a k acc lone = scan x strict a (k + 6) (acc ++ [v]) (lone || v / 2048 == 27) := by
  obtain rfl : kn = k + 2 := by omega
  obtain rfl : kn2 = k + 8 := by omega
  rw [pair_at (n := k + 6) (by omega)] at h3
  rw [fd1024] at h1 h4
  refine ⟨hex4_le h, fun acc lone => ?_⟩
  rw [scan_half hb hk hu h (by omega) h3 h2 (by omega)]
  have : (v / 2048 == 27) = true := by
    rw [beq_iff_eq]; omega
  rw [this, Bool.or_true]
theorem ls_nohex2 {kn v kn2 : Nat} (hb : cpAt x k = 92) (hk : k + 1 < x.length) (hu : cpAt x (k + 1) = 117) (hkn : (kn : Int) = (k : Int) + 2) (h : hex4 x kn = some v) (h1 : Int.fdiv (v : Int) 1024 = 54)
    (h3 : (Txt.slice x (some ((k : Int) + 6)) (some ((k : Int) + 6 + 2)) == Str.ofString "\\u") = true) (hkn2 : (kn2 : Int) = (k : Int) + 6 + 2) (h2 : hex4 x kn2 = none) :
    scan x strict a k acc lone = .no MH ((k : Int) + 6) := by
  obtain rfl : kn = k + 2 := by omega
  obtain rfl : kn2 = k + 8 := by omega
  rw [pair_at (n := k + 6) (by omega)] at h3
  rw [fd1024] at h1
  exact scan_nohex2 hb hk hu h (by omega) h3 h2
theorem ls_nopair {kn v : Nat} (hb : cpAt x k = 92) (hk : k + 1 < x.length) (hu : cpAt x (k + 1) = 117) (hkn : (kn : Int) = (k : Int) + 2) (h : hex4 x kn = some v)
    (h3 : (Txt.slice x (some ((k : Int) + 6)) (some ((k : Int) + 6 + 2)) == Str.ofString "\\u") = false) :
    k + 6 ≤ x.length ∧ ∀ acc lone, scan x strict a k acc lone = scan x strict a (k + 6) (acc ++ [v]) (lone || v / 2048 == 27) := by
  obtain rfl : kn = k + 2 := by omega
  rw [pair_at (n := k + 6) (by omega)] at h3
  exact ⟨hex4_le h, fun acc lone => scan_one hb hk hu h fun z => by rw [h3] at z; cases z.2⟩
theorem ls_one {kn v : Nat} (hb : cpAt x k = 92) (hk : k + 1 < x.length) (hu : cpAt x (k + 1) = 117) (hkn : (kn : Int) = (k : Int) + 2) (h : hex4 x kn = some v) (h1 : Int.fdiv (v : Int) 1024 ≠ 54) :
    k + 6 ≤ x.length ∧ ∀ acc lone, scan x strict a k acc lone = scan x strict a (k + 6) (acc ++ [v]) (lone || v / 2048 == 27) := by
  obtain rfl : kn = k + 2 := by omega
  rw [fd1024] at h1
  exact ⟨hex4_le h, fun acc lone => scan_one hb hk hu h fun z => h1 (by omega)⟩
theorem ls_nohex {kn : Nat} (hb : cpAt x k = 92) (hk : k + 1 < x.length) (hu : cpAt x (k + 1) = 117) (hkn : (kn : Int) = (k : Int) + 2) (h : hex4 x kn = none) : scan x strict a k acc lone = .no MH (k : Int) := by
  obtain rfl : kn = k + 2 := by omega
  exact scan_nohex hb hk hu h
theorem ls_scan {k' num : Nat} {lone' : Bool} {T : Res} (hout : ∀ acc lone, scan x strict a k acc lone = scan x strict a k' (acc ++ [num]) (lone || num / 2048 == 27)) (hl : lone' = (lone || num / 2048 == 27))
    (hp5 : scan x strict a k acc lone = T) : scan x strict a k' (acc ++ [num]) lone' = T := by rw [← hp5, hout, hl]
theorem ls_flat {num : Nat} {lone' : Bool} {l : List (Str × Tok)} {y : Str} {ty : Tok} (hl : lone' = (lone || num / 2048 == 27)) (hy : lone' = false → y.cps.toList = [num]) (hp6 : lone = false → flatS l = acc) (h : lone' = false) :
    flatS (l ++ [(y, ty)]) = acc ++ [num] := by
  rw [flatS_snoc, hy h]
  rw [hl, Bool.or_eq_false_iff] at h
  rw [hp6 h.1]
theorem lone_t {b : Bool} (h : lone = true) : lone = (lone || b) := by rw [h]; rfl
theorem lone_f {N : Int} {num : Nat} (h : lone = false) (hN : N = (num : Int)) : (Int.fdiv N 2048 == 27) = (lone || num / 2048 == 27) := by rw [h, fd_beq hN]; rfl
theorem y_num {N : Int} {num : Nat} (hN : N = (num : Int)) : (⟨#[N.toNat]⟩ : Str).cps.toList = [num] := by rw [hN]; rfl
theorem y_no {N : Int} {p : Prop} (h : Int.fdiv N 2048 = 27) (q : (Int.fdiv N 2048 == 27) = false) : p := by rw [h] at q; cases q
theorem item_bt {j : Nat} (hj : j < x.length) (q : (Txt.item x (j : Int) == Str.ofString "\\") = true) : cpAt x j = 92 := by
  rw [item_b hj] at q; simpa using q
theorem item_nb {j : Nat} (hj : j < x.length) (q : (Txt.item x (j : Int) == Str.ofString "\\") = false) : cpAt x j ≠ 92 := by
  rw [item_b hj] at q; simpa using q
theorem item_nq {j : Nat} (hj : j < x.length) (q : (Txt.item x (j : Int) != Str.ofString "\"") = true) : cpAt x j ≠ 34 := by
  have := item_q hj
  rw [bne_iff_ne] at q
  rw [beq_eq_false_iff_ne.mpr q] at this
  simpa using this.symm
theorem item_nqf {j : Nat} (hj : j < x.length) (q : (Txt.item x (j : Int) != Str.ofString "\"") = false) : cpAt x j = 34 := by
  have := item_q hj
  rw [bne_eq_false_iff_eq] at q
  rw [q, beq_self_eq_true] at this
  simpa using this.symm
theorem item_lt {j : Nat} (hj : j < x.length) (q : (((Txt.item x (j : Int)).cps.getD 0 0 : Nat) : Int) < 32) : cpAt x j < 32 := by
  rw [item_c hj] at q; omega
theorem item_ge {j : Nat} (hj : j < x.length) (q : ¬ (((Txt.item x (j : Int)).cps.getD 0 0 : Nat) : Int) < 32) : ¬ cpAt x j < 32 := by
  rw [item_c hj] at q; omega
end
end Mine
end

section
open PySem PySem.W PyProof.Rows PySem.Calls PySem.StrLaws
set_option Elab.async false
set_option maxRecDepth 100000
set_option maxHeartbeats 4000000
namespace Mine
local macro_rules | `(tactic| k_room) => `(tactic| exact Nat.le_of_ble_eq_true rfl)

structure PySt where
  l : List (Str × Tok)
  ver : Nat
  k : Nat
  tk : Tok
  lone : Bool
theorem append_S {prog : Program} {w : World} {A : Around} {E : Value → Shared → Prop} {s : Shared} {h₀ : Heap} {L lc : Addr} {m : Str → Option Value} {news : List (Addr × Obj)} {l : List (Str × Tok)} {ver : Nat} {y : Str} {ty : Tok} {Q : Value → Shared → Prop}
    (F : Fr h₀ L s.heap m) (N : News h₀ L s.heap news) (hm : (lc, listOf (strValues l).toArray ver) ∈ news) (hsz : l.length ≤ 4194304)
    (h : ∀ h', Fr h₀ L h' m → News h₀ L h' [(lc, listOf (strValues (l ++ [(y, ty)])).toArray (ver + 1))] → Q .none { s with heap := h' }) : wpAny (model prog w) A (call (.builtin "list.append") [.ref lc, .str y ty]) Q E s := by
  have z := N _ hm
  have hz : (strValues l).toArray.size ≤ sizeLine := by
    rw [sizeLine_eq]; simp [strValues]; omega
  refine append_at (hsz := hz) z.1 fun h' hs ho' => h h' (F.change hs z.2.1 z.2.2) ?_
  intro p hp
  rw [List.mem_singleton] at hp
  subst hp
  refine ⟨?_, z.2⟩
  have e : (strValues (l ++ [(y, ty)])).toArray = (strValues l).toArray.push (.str y ty) := by simp [strValues]
  show h'.get? lc = _
  rw [e]; exact ho'
local macro_rules | `(tactic| walk_at "call builtin:list.append") => `(tactic| (
  (with_reducible show wpAny _ _ (call (Value.builtin _) [Value.ref _, Value.str _ _]) _ _ _)
  k_dflt (refine' append_S (by k_asm) (by k_asm) (by first | exact List.mem_cons_self .. | exact List.mem_cons_of_mem _ (List.mem_cons_self ..)) (by (try simp only [List.length_append, List.length_cons, List.length_nil]); omega) ?_)
  intro h' F' N'; (try k_sweep)))
local macro_rules | `(tactic| walk_at "exec While Constant cons nil") => `(tactic| refine Held.out ?_)
local macro_rules | `(tactic| walk_at "exec Raise some none") => `(tactic| refine exec_raise_own rfl ?_)
local macro_rules | `(tactic| walk_at "call ref") => `(tactic| (
  (with_reducible show wpAny _ _ (call (Value.ref 49) _ _) _ _ _)
  k_dflt (refine' jde_raise (by assumption) (by k_asm) (by k_asm) rfl rfl (by decide) (by assumption) (by omega) (by omega) (by assumption) (by decide) ?_)))
local macro_rules | `(tactic| walk_at "call ref") => `(tactic| (
  (with_reducible show wpAny _ _ (call (Value.ref 60) _ _) _ _ _)
  focus (
    k_dflt (refine' match_call (by assumption) (by k_asm) (by k_asm) rfl rfl (by assumption) (by omega) (by decide) ?_ ?_)
    (intro h' tk' F' N' $(Lean.mkIdent `hns); (try dsimp only))
    rotate_left
    (intro $(Lean.mkIdent `j) h' tk' D t1 t2 t3 F' N' ne $(Lean.mkIdent `hj1) $(Lean.mkIdent `hj2) $(Lean.mkIdent `hj3) $(Lean.mkIdent `hj4); (try dsimp only))
    rotate_right
    rotate_left)))
local macro_rules | `(tactic| walk_at "exec If") => `(tactic| ((with_reducible show wpAny _ _ (exec (Stmt.If (Expr.Name (Str.ofString "content") _) _ _ _) _) _ _ _); refine Held.out ?_))
local macro_rules | `(tactic| walk_at "exec If") => `(tactic| ((with_reducible show wpAny _ _ (exec (Stmt.If (Expr.Compare (Expr.Name (Str.ofString "esc") _) [CmpOp.NotEq] _ _) _ _ _) _) _ _ _); refine Held.out ?_))
local macro_rules | `(tactic| walk_at "call ref") => `(tactic| (
  (with_reducible show wpAny _ _ (call (Value.ref 67) _ _) _ _ _)
  focus (
    k_dflt (refine' scan_hex_callE (by assumption) (by k_asm) (by k_asm) rfl rfl (by assumption) (by omega) (by first | omega | exact pair_le (by omega) (by assumption)) (by assumption) (by decide) ?_ ?_)
    (intro kn v h' tk' D t1 t2 hkn F' N' ne hv1 hv2 hv3; (try dsimp only))
    rotate_left
    (intro kn h' tk' e d hkn hv1 Y; (try dsimp only))
    rotate_right)))
structure EscSt where
  e : Nat
  te : Tok
  ch : Nat
  tc : Tok
  lone : Bool
theorem content_some {x : Str} {n j : Nat} (h : ((Txt.slice x (some (n : Int)) (some (j : Int))).length : Int) ≠ 0) : n < j := by
  have := slice_len x n j
  omega
theorem content_none {y : Str} (h : (y.length : Int) = 0) : y.cps.toList = [] := by
  have h' : y.cps.size = 0 := by have : y.length = 0 := by omega
                                 exact this
  rw [Array.eq_empty_of_size_eq_zero h']
theorem Fly.pos {base h0 h : Heap} {l : List Env} {e d : Addr} {mx x : Str} {k k' : Int} {fl : Value} (Y : Fly base h0 l e d mx x k fl h) (hk : k = k') : Fly base h0 l e d mx x k' fl h := hk ▸ Y
local macro_rules | `(tactic| walk_at "call builtin:chr") => `(tactic| refine chr_two (by assumption) (by assumption) (by assumption) (by assumption) ?_)
theorem WPost.turnC {h₀ : Heap} {L : Addr} {s : Shared} {σ : Type} {ps : σ → List (Str × Value)} {Led : σ → List (Addr × Obj)} {P : σ → Prop} {μ : σ → Nat} {Q : Flow → Shared → Prop} {c : σ} (c' : σ) {h' : Heap} {tk : Nat} {m' : Str → Option Value} {news' : List (Addr × Obj)}
    (F : Fr h₀ L h' m') (N : News h₀ L h' news') (hl : ∀ p ∈ Led c', p ∈ news') (hk : KS m' (ps c')) (hp : P c') (hm : μ c' < μ c) : WPost h₀ L s ps Led P μ Q c .cont { s with heap := h', toks := tk } :=
  ⟨c', h', tk, m', news', rfl, F, N, hl, hk, hp, hm⟩
theorem fold_cps : ∀ (r : List Str) (a : Array Nat), (r.foldl (fun acc p => acc ++ (#[] : Array Nat) ++ p.cps) a).toList = a.toList ++ (r.map fun p => p.cps.toList).flatten
  | [], a => by simp
  | p :: r, a => by
    rw [List.foldl_cons, fold_cps r]
    simp
theorem join_cps (l : List (Str × Tok)) : (Txt.join (Str.ofString "") (l.map (·.1))).cps.toList = flatS l := by
  have e : Str.ofString "" = ⟨#[]⟩ := by decide +kernel
  rw [e]
  unfold Txt.join Builtin.Str.glued flatS
  cases l with
  | nil => rfl
  | cons p r =>
    simp only [List.map_cons, List.drop_succ_cons, List.drop_zero, List.headD_cons]
    rw [fold_cps]
    simp [List.map_map, Function.comp_def]
theorem flat_sum : ∀ l : List (Str × Tok), ((l.map (·.1)).map (·.length)).sum = (flatS l).length
  | [] => rfl
  | p :: r => by
    have := flat_sum r
    unfold flatS at this ⊢
    simp only [List.map_cons, List.sum_cons, List.flatten_cons, List.length_append]
    rw [this]; simp [Str.length]
theorem join_S {prog : Program} {w : World} {A : Around} {E : Value → Shared → Prop} {s : Shared} {h₀ : Heap} {L lc : Addr} {news : List (Addr × Obj)} {l : List (Str × Tok)} {ver : Nat} {t : Tok} {Q : Value → Shared → Prop}
    (N : News h₀ L s.heap news) (hm : (lc, listOf (strValues l).toArray ver) ∈ news) (hsz : (flatS l).length ≤ 1048576)
    (hq : ∀ Y t' k, Y.cps.toList = flatS l → Q (.str Y t') { s with toks := k }) : wpAny (model prog w) A (call (.builtin "str.join") [.str (Str.ofString "") t, .ref lc]) Q E s := by
  refine SC.join (News.isList N hm) rfl (joinOk_of ?_) fun t' k => hq _ t' k (join_cps l)
  have e : (Str.ofString "").length = 0 := by decide +kernel
  rw [flat_sum, e]; omega
local macro_rules | `(tactic| walk_at "call builtin:str.join") => `(tactic| (
  k_dflt (refine' join_S (by k_asm) (by first | exact List.mem_cons_self .. | exact List.mem_cons_of_mem _ (List.mem_cons_self ..)) (by omega) ?_)
  intro Y t' k' $(Lean.mkIdent `hY)))

theorem py_spec {w : World} {gd : Option (List Code)} {base : Heap} {outer : List Env} {s : Shared} {mean : ExcName → Option Value} {mg mb : Str → Option Value} {R : Result → Shared → Prop}
    {x : Str} {t tk tb : Tok} {k : Nat} {strict : Bool} (C : Cx w mean mg mb base outer s.heap)
    (hx : x.length ≤ 1048576) (hk1 : 1 ≤ k) (hk2 : k ≤ x.length) (hc : ∀ c ∈ x.cps.toList, c < 1114112)
    (hR1 : ∀ acc e lone Y h' tk' D t1 t2, Keeps s.heap h' → scan x strict k k [] false = .is acc e lone → Y.cps.toList = acc → s.heap.get? D = none → h'.get? D = some (tupOf [.str Y t1, .int (e : Int) t2]) → R (.ok (.ret (.ref D))) { s with heap := h', toks := tk' })
    (hR2 : ∀ mx p h' tk' e d, scan x strict k k [] false = .no mx p → Fly base s.heap outer e d mx x p .none h' → R (.error (.ref e)) { s with heap := h', toks := tk' }) :
    codeAny (model Challenge.rw_ev0023_01.row.prog w) (Ar 780 780 gd outer) (.call (.ref 75) ⟨[.str x t, .int (k : Int) tk, .bool strict], []⟩) R s := by
  w_top off
  have B := C.below 780 gd
  have X := C.XH
  have T := C.TH
  revert X
  k_fill
  intro X
  refine' enter_def (binds := [("s", .str x t), ("end", .int (k : Int) tk), ("strict", .bool strict)]) B X T ?k1 ?k2 ?k3 ?k4 ?k5 ?_ ?k6 ?k7 ?k8 ?k9
  case k1 => k_is
  case k2 => k_is
  case k3 => exact Nat.le_of_ble_eq_true rfl
  case k4 => first | exact BindsTo.of_eq rfl | exact binds_K X rfl (by k_is) rfl rfl rfl
  case k5 => exact locs rfl
  case k6 => decide
  case k7 => exact rfl
  case k8 => exact rfl
  case k9 => exact rfl
  clear B X T
  intro g L' h₁ hg F N B' X' T' hL
  try dsimp only
  k_fold
  rw [← hg] at C
  have hg0 : s.heap = g := hg.symm
  k_steps
  (rename Fr _ _ _ _ => F)
  (rename News _ _ _ _ => N)
  refine while_my (σ := PySt) (fun c => [("chunks", .ref _), ("end", .int (c.k : Int) c.tk), ("begin", .int ((k : Int) - 1) _), ("s", .str x t), ("strict", .bool strict)]) (fun c => [(_, listOf (strValues c.l).toArray c.ver)])
    (fun c => k ≤ c.k ∧ c.k ≤ x.length ∧ c.l.length ≤ c.k ∧ (flatS c.l).length ≤ c.k ∧ scan x strict k c.k (flatS c.l) c.lone = scan x strict k k [] false) (fun c => (x.length - c.k)) ⟨[], 0, k, _, false⟩ F N (one_led (List.mem_cons_self ..)) (ks_cons rfl (ks_cons rfl (ks_cons rfl (ks_cons rfl (ks_cons rfl ks_nil))))) ⟨Nat.le_refl _, hk2, Nat.zero_le _, Nat.zero_le _, rfl⟩ ?_
  clear F N
  intro c u h tk0 hp F N
  obtain ⟨l, ver, n, tn, lone⟩ := c
  obtain ⟨hp1, hp2, hp3, hp4, hp5⟩ := hp
  dsimp only [kstB] at hp1 hp2 hp3 hp4 hp5 F N ⊢
  k_fold
  k_steps
  · (rename Fr _ _ _ _ => F)
    (rename News _ _ _ _ => N)
    refine join_my (h₀ := g) (σ := List (Str × Tok) × Nat) (fun c => [("terminator", .str (Txt.item x (j : Int)) _), ("end", .int ((j : Int) + 1) _), ("chunks", .ref _), ("begin", .int ((k : Int) - 1) _), ("s", .str x t), ("strict", .bool strict)]) (fun c => [(_, listOf (strValues c.1).toArray c.2)])
      (fun c => flatS c.1 = flatS l ++ (Txt.slice x (some (n : Int)) (some (j : Int))).cps.toList ∧ c.1.length + n ≤ l.length + j) (l, ver) F N (one_led (List.mem_cons_of_mem _ (List.mem_cons_self ..))) (ks_cons rfl (ks_cons rfl (ks_cons rfl (ks_cons rfl (ks_cons rfl (ks_cons rfl ks_nil)))))) ?_ ?_
    · refine wpAny_If ?_
      k_steps
      · (rename Fr _ _ _ _ => F9); (rename News _ _ _ _ => N9)
        refine JPost.go (_, _) F9 N9 (one_led (List.mem_cons_self ..)) (ks_cons rfl (ks_cons rfl (ks_cons rfl (ks_cons rfl (ks_cons rfl (ks_cons rfl ks_nil)))))) ⟨flatS_snoc _ _ _, ?_⟩
        have hne := content_some (by assumption)
        simp only [List.length_append, List.length_cons, List.length_nil]
        omega
      · (rename Fr _ _ _ _ => F9); (rename News _ _ _ _ => N9)
        refine JPost.go (l, _) F9 N9 (one_led (List.mem_cons_of_mem _ (List.mem_cons_self ..))) (ks_cons rfl (ks_cons rfl (ks_cons rfl (ks_cons rfl (ks_cons rfl (ks_cons rfl ks_nil)))))) ⟨?_, ?_⟩
        · rw [content_none (by assumption), List.append_nil]
        · show l.length + n ≤ l.length + j
          omega
    · intro c u2 h2 tk2 hp6 F N
      obtain ⟨l2, ver2⟩ := c
      obtain ⟨hp6, hp7⟩ := hp6
      dsimp only [kstB] at hp6 hp7 F N ⊢
      have hrun : scan x strict k j (flatS l2) lone = scan x strict k k [] false := by
        rw [hp6, ← scan_run hj1 (Nat.le_of_lt hj2) hj4]; exact hp5
      have hfl : (flatS l2).length ≤ j := by
        rw [hp6, List.length_append]
        have h9 : (Txt.slice x (some (n : Int)) (some (j : Int))).cps.toList.length = min (j - n) (x.length - n) := by
          rw [← slice_len]; simp [Str.length]
        omega
      (try k_fold)
      k_steps
      · show WPost _ _ _ _ _ _ _ _ _ .brk _
        show wpAny _ _ (execs _ _) _ _ _
        have h34 := item_qt hj2 (by assumption)
        k_steps
        (rename Fr _ _ _ _ => F9); (rename News _ _ _ _ => N9)
        subst hg
        exact hR1 _ (j + 1) lone _ _ _ _ _ _ F9.keep (hrun.symm.trans (scan_quote hj2 h34)) hY (N9 _ (List.mem_cons_self ..)).2.2 (N9 _ (List.mem_cons_self ..)).1
      · subst hg
        exact hR2 _ _ _ _ _ _ (hrun.symm.trans ((by assumption : strict = true) ▸ scan_ctl hj2 (item_qf hj2 (by assumption)) (item_bne' hj2 (by assumption)) (stop_ctl hj3 (item_qf hj2 (by assumption)) (item_bne' hj2 (by assumption))))) (Fly.pos (by assumption) (by omega))
      · (rename Fr _ _ _ _ => F9); (rename News _ _ _ _ => N9)
        have h34 := item_qf hj2 (by assumption)
        have h92 := item_bne' hj2 (by assumption)
        show WPost _ _ _ _ _ _ _ _ _ .cont _
        refine WPost.turnC ⟨_, _, j + 1, _, lone⟩ F9 N9 (one_led (List.mem_cons_self ..)) (ks_cons rfl (ks_cons rfl (ks_cons rfl (ks_cons rfl (ks_cons rfl ks_nil))))) ⟨by show k ≤ j + 1; omega, by show j + 1 ≤ x.length; omega, ?_, ?_, ?_⟩ (by show x.length - (j + 1) < x.length - n; omega)
        · simp only [List.length_append, List.length_cons, List.length_nil]
          omega
        · simp only [flatS_snoc, List.length_append]
          rw [item_eq hj2]
          show _ + 1 ≤ j + 1
          omega
        · simp only [flatS_snoc]
          rw [item_eq hj2, ← hrun, scan_sign (k := j) hj2 h34 h92 fun _ => by assumption]
      · subst hg
        exact hR2 _ _ _ _ _ _ (hrun.symm.trans (scan_cut (item_bne hj2 (by assumption)) (by omega))) (by assumption)
      · clear F N
        (rename Fr _ _ _ _ => F)
        (rename News _ _ _ _ => N)
        have hb := item_bne hj2 (by assumption)
        have hj5 : j + 1 < x.length := by omega
        refine join2 (h₀ := g) (σ := EscSt) (fun c => [("char", .str ⟨#[c.ch]⟩ c.tc), ("end", .int (c.e : Int) c.te)]) [("chunks", .ref _), ("begin", .int ((k : Int) - 1) _), ("s", .str x t), ("strict", .bool strict)] [(_, listOf (strValues l2).toArray ver2)]
          (fun c => j + 1 < c.e ∧ c.e ≤ x.length ∧ ∀ acc, scan x strict k j acc lone = scan x strict k c.e (acc ++ [c.ch]) c.lone) F N (one_led (List.mem_cons_self ..)) (ks_cons rfl (ks_cons rfl (ks_cons rfl (ks_cons rfl ks_nil)))) ?_ ?_
        · refine wpAny_If ?_
          k_steps
          · (rename Fr _ _ _ _ => F9); (rename News _ _ _ _ => N9)
            exact JPost.go ⟨j + 1 + 1, _, _, _, lone⟩ F9 N9 (one_led (List.mem_cons_self ..)) (ks_cons rfl (ks_cons rfl (ks_cons rfl (ks_cons rfl (ks_cons rfl (ks_cons rfl ks_nil)))))) (esc_tbl hb hj5 (by assumption) (by decide) rfl)
          · (rename Fr _ _ _ _ => F9); (rename News _ _ _ _ => N9)
            exact JPost.go ⟨j + 1 + 1, _, _, _, lone⟩ F9 N9 (one_led (List.mem_cons_self ..)) (ks_cons rfl (ks_cons rfl (ks_cons rfl (ks_cons rfl (ks_cons rfl (ks_cons rfl ks_nil)))))) (esc_tbl hb hj5 (by assumption) (by decide) rfl)
          · (rename Fr _ _ _ _ => F9); (rename News _ _ _ _ => N9)
            exact JPost.go ⟨j + 1 + 1, _, _, _, lone⟩ F9 N9 (one_led (List.mem_cons_self ..)) (ks_cons rfl (ks_cons rfl (ks_cons rfl (ks_cons rfl (ks_cons rfl (ks_cons rfl ks_nil)))))) (esc_tbl hb hj5 (by assumption) (by decide) rfl)
          · (rename Fr _ _ _ _ => F9); (rename News _ _ _ _ => N9)
            exact JPost.go ⟨j + 1 + 1, _, _, _, lone⟩ F9 N9 (one_led (List.mem_cons_self ..)) (ks_cons rfl (ks_cons rfl (ks_cons rfl (ks_cons rfl (ks_cons rfl (ks_cons rfl ks_nil)))))) (esc_tbl hb hj5 (by assumption) (by decide) rfl)
          · (rename Fr _ _ _ _ => F9); (rename News _ _ _ _ => N9)
            exact JPost.go ⟨j + 1 + 1, _, _, _, lone⟩ F9 N9 (one_led (List.mem_cons_self ..)) (ks_cons rfl (ks_cons rfl (ks_cons rfl (ks_cons rfl (ks_cons rfl (ks_cons rfl ks_nil)))))) (esc_tbl hb hj5 (by assumption) (by decide) rfl)
          · (rename Fr _ _ _ _ => F9); (rename News _ _ _ _ => N9)
            exact JPost.go ⟨j + 1 + 1, _, _, _, lone⟩ F9 N9 (one_led (List.mem_cons_self ..)) (ks_cons rfl (ks_cons rfl (ks_cons rfl (ks_cons rfl (ks_cons rfl (ks_cons rfl ks_nil)))))) (esc_tbl hb hj5 (by assumption) (by decide) rfl)
          · (rename Fr _ _ _ _ => F9); (rename News _ _ _ _ => N9)
            exact JPost.go ⟨j + 1 + 1, _, _, _, lone⟩ F9 N9 (one_led (List.mem_cons_self ..)) (ks_cons rfl (ks_cons rfl (ks_cons rfl (ks_cons rfl (ks_cons rfl (ks_cons rfl ks_nil)))))) (esc_tbl hb hj5 (by assumption) (by decide) rfl)
          · (rename Fr _ _ _ _ => F9); (rename News _ _ _ _ => N9)
            exact JPost.go ⟨j + 1 + 1, _, _, _, lone⟩ F9 N9 (one_led (List.mem_cons_self ..)) (ks_cons rfl (ks_cons rfl (ks_cons rfl (ks_cons rfl (ks_cons rfl (ks_cons rfl ks_nil)))))) (esc_tbl hb hj5 (by assumption) (by decide) rfl)
          · subst hg
            exact hR2 _ _ _ _ _ _ (hrun.symm.trans (esc_none hb hj5 (by assumption) (by assumption))) (by assumption)
          · (rename Fr _ _ _ _ => F9); (rename News _ _ _ _ => N9)
            exact JPost.go ⟨j + 1 + 1 + 4 + 2 + 4, _, _, _, lone⟩ F9 N9 (one_led (List.mem_cons_of_mem _ (List.mem_cons_of_mem _ (List.mem_cons_self ..)))) (ks_cons rfl (ks_cons rfl (ks_cons rfl (ks_cons rfl (ks_cons rfl (ks_cons rfl ks_nil)))))) (esc_two hb hj5 (by assumption) (by assumption) (by assumption) (by assumption) (by assumption) (by assumption) (by assumption) (by assumption))
          · (rename Fr _ _ _ _ => F9); (rename News _ _ _ _ => N9)
            exact JPost.go ⟨j + 1 + 1 + 4, _, _, _, true⟩ F9 N9 (one_led (List.mem_cons_of_mem _ (List.mem_cons_of_mem _ (List.mem_cons_self ..)))) (ks_cons rfl (ks_cons rfl (ks_cons rfl (ks_cons rfl (ks_cons rfl (ks_cons rfl ks_nil)))))) (esc_half hb hj5 (by assumption) (by assumption) (by assumption) (by assumption) (by assumption) (by assumption) (by assumption) (by assumption))
          · subst hg
            exact hR2 _ _ _ _ _ _ (hrun.symm.trans (esc_nohex2 hb hj5 (by assumption) (by assumption) (by assumption) (by assumption) (by assumption) (by assumption) (by assumption))) (Fly.pos (by assumption) (by omega))
          · (rename Fr _ _ _ _ => F9); (rename News _ _ _ _ => N9)
            exact JPost.go ⟨j + 1 + 1 + 4, _, _, _, _⟩ F9 N9 (one_led (List.mem_cons_of_mem _ (List.mem_cons_self ..))) (ks_cons rfl (ks_cons rfl (ks_cons rfl (ks_cons rfl (ks_cons rfl (ks_cons rfl ks_nil)))))) (esc_nopair hb hj5 (by assumption) (by assumption) (by assumption) (by assumption))
          · (rename Fr _ _ _ _ => F9); (rename News _ _ _ _ => N9)
            exact JPost.go ⟨j + 1 + 1 + 4, _, _, _, _⟩ F9 N9 (one_led (List.mem_cons_of_mem _ (List.mem_cons_self ..))) (ks_cons rfl (ks_cons rfl (ks_cons rfl (ks_cons rfl (ks_cons rfl (ks_cons rfl ks_nil)))))) (esc_one hb hj5 (by assumption) (by assumption) (by assumption) (by assumption))
          · subst hg
            exact hR2 _ _ _ _ _ _ (hrun.symm.trans (esc_nohex hb hj5 (by assumption) (by assumption) (by assumption))) (Fly.pos (by assumption) (by omega))
        · intro c u3 h3 tk3 hp8 F N
          obtain ⟨e, te, ch, tc, lone2⟩ := c
          obtain ⟨hp8, hp9, hp10⟩ := hp8
          dsimp only [kstB, List.cons_append, List.nil_append] at hp8 hp9 hp10 F N ⊢
          (try k_fold)
          k_steps
          (rename Fr _ _ _ _ => F9); (rename News _ _ _ _ => N9)
          refine WPost.turn ⟨_, _, e, _, lone2⟩ F9 N9 (one_led (List.mem_cons_self ..)) (ks_cons rfl (ks_cons rfl (ks_cons rfl (ks_cons rfl (ks_cons rfl ks_nil))))) ⟨by show k ≤ e; omega, hp9, ?_, ?_, ?_⟩ (by show x.length - e < x.length - n; omega)
          · simp only [List.length_append, List.length_cons, List.length_nil]
            omega
          · simp only [flatS_snoc, List.length_append]
            show _ + 1 ≤ e
            omega
          · simp only [flatS_snoc]
            rw [← hrun, hp10]
  · subst hg
    exact hR2 _ _ _ _ _ _ (hp5.symm.trans ((scan_run hp2 (Nat.le_refl _) hns).trans (scan_end (Nat.le_refl _)))) (by assumption)

/-- a call of py_scanstring from a frame -/
theorem py_call {w : World} {gd : Option (List Code)} {base : Heap} {outer : List Env} {s : Shared} {mean : ExcName → Option Value} {mg mb : Str → Option Value} {g : Heap} {L : Addr} {m : Str → Option Value} {env : Env} {news : List (Addr × Obj)} {n : Nat} {E Q : Value → Shared → Prop}
    {x : Str} {t tk : Tok} {k : Nat} {strict : Bool} (C : Cx w mean mg mb base outer g) (F : Fr g L s.heap m) (N : News g L s.heap news) (hf : env.frame = some L) (hke : env.scope.kind = .function)
    (hx : x.length ≤ 1048576) (hk1 : 1 ≤ k) (hk2 : k ≤ x.length) (hc : ∀ c ∈ x.cps.toList, c < 1114112) (hn : n ≤ 770)
    (hR1 : ∀ acc e lone Y h' tk' D t1 t2, Fr g L h' m → News g L h' ((D, tupOf [.str Y t1, .int ((e : Nat) : Int) t2]) :: news) → (∀ p ∈ news, p.1 ≠ D) → scan x strict k k [] false = .is acc e lone → Y.cps.toList = acc → Q (.ref D) { s with heap := h', toks := tk' })
    (hR2 : ∀ mx p h' tk' e d, scan x strict k k [] false = .no mx p → Fly base s.heap (env :: outer) e d mx x p .none h' → E (.ref e) { s with heap := h', toks := tk' }) :
    wpAny (model Challenge.rw_ev0023_01.row.prog w) ((Ar n n gd outer).deeper env) (call (.ref 75) [.str x t, .int (k : Int) tk, .bool strict] []) Q E s := by
  refine wpAny_call (codeAny_ctx (A' := Ar 780 780 gd (env :: outer)) (py_spec (tb := t) (C.deeper F hf hke) hx hk1 hk2 hc (fun acc e lone Y h' tk' D t1 t2 k1 q1 q2 q3 q4 => ?_) (fun mx p h' tk' e d q1 q2 => ?_)) rfl (by show n + 1 ≤ 780; omega) rfl rfl (by show n + 3 ≤ 780; omega))
  · obtain ⟨N1, n1⟩ := news_new F N k1 q3 q4
    exact hR1 acc e lone Y h' tk' D t1 t2 (F.keeps k1) N1 n1 q1 q2
  · exact hR2 mx p h' tk' e d q1 q2
end Mine
end

section
open PySem PySem.W PyProof.Rows PySem.Calls PySem.StrLaws
set_option Elab.async false
set_option maxRecDepth 100000
set_option maxHeartbeats 4000000
namespace Mine
local macro_rules | `(tactic| k_room) => `(tactic| exact Nat.le_of_ble_eq_true rfl)

local macro_rules | `(tactic| walk_at "exec For Name Name") => `(tactic| refine Held.out ?_)

theorem law_hex_spec {w : World} {gd : Option (List Code)} {base : Heap} {outer : List Env} {s : Shared} {mean : ExcName → Option Value} {mg mb : Str → Option Value} {R : Result → Shared → Prop}
    {x : Str} {t tk : Tok} {k : Nat} (C : Cx w mean mg mb base outer s.heap)
    (hx : x.length ≤ 1048576) (hk2 : k ≤ x.length + 10)
    (hR1 : ∀ n h' tk' t1, Keeps s.heap h' → hex4 x k = some n → R (.ok (.ret (.int (n : Int) t1))) { s with heap := h', toks := tk' })
    (hR2 : ∀ h' tk' t1, Keeps s.heap h' → hex4 x k = none → R (.ok (.ret (.int (-1) t1))) { s with heap := h', toks := tk' }) :
    codeAny (model Challenge.rw_ev0023_01.row.prog w) (Ar 700 700 gd outer) (.call (.ref 82) ⟨[.str x t, .int (k : Int) tk], []⟩) R s := by
  w_top off
  have B := C.below 700 gd
  have X := C.XH
  have T := C.TH
  revert X
  k_fill
  intro X
  refine' enter_def (binds := [("s", .str x t), ("at", .int (k : Int) tk)]) B X T ?k1 ?k2 ?k3 ?k4 ?k5 ?_ ?k6 ?k7 ?k8 ?k9
  case k1 => k_is
  case k2 => k_is
  case k3 => exact Nat.le_of_ble_eq_true rfl
  case k4 => first | exact BindsTo.of_eq rfl | exact binds_K X rfl (by k_is) rfl rfl rfl
  case k5 => exact locs rfl
  case k6 => decide
  case k7 => exact rfl
  case k8 => exact rfl
  case k9 => exact rfl
  clear B X T
  intro g L' h₁ hg F N B' X' T' hL
  try dsimp only
  k_fold
  rw [← hg] at C
  have hg0 : s.heap = g := hg.symm
  k_steps
  · (rename Fr _ _ _ _ => F9)
    subst hg
    exact hR2 _ _ _ F9.keep (hex4_short (by omega))
  · (rename Fr _ _ _ _ => F)
    (rename News _ _ _ _ => N)
    have hl : ((Txt.slice x (some (k : Int)) (some ((k : Int) + 4))).length : Int) = 4 := by
      have := slice4_len x k
      omega
    refine for_str (σ := Nat × Tok) (fun c => [("number", .int (c.1 : Int) c.2), ("piece", .str (Txt.slice x (some (k : Int)) (some ((k : Int) + 4))) _), ("s", .str x t), ("at", .int (k : Int) _)]) (fun i c => hexFold x k i = some c.1) (0, _) F N rfl rfl rfl
      (fun Q' h => ld F rfl h) (ks_cons rfl (ks_cons rfl (ks_cons rfl (ks_cons rfl ks_nil)))) rfl (fun c => rfl) ?_ ?_
    · clear F N
      intro i c u h tk0 ct own hi hp F N
      obtain ⟨n, tn⟩ := c
      dsimp only [kstB] at hp F N ⊢
      have hnb := hexFold_lt hp
      have hpow : 16 ^ i ≤ 65536 := by
        have : i ≤ 4 := by omega
        exact Nat.pow_le_pow_right (n := 16) (i := i) (j := 4) (by omega) this
      (try k_fold)
      k_steps
      · (rename Fr _ _ _ _ => F9)
        subst hg
        exact hR2 _ _ _ F9.keep (hex4_bad hi (hex_find_lt (by assumption)))
      · (rename Fr _ _ _ _ => F9)
        (rename News _ _ _ _ => N9)
        obtain ⟨d, hd, hd2⟩ := hex_find_ge (by assumption)
        rw [if_pos (by assumption)] at hd2
        exact FPost.turn (_, _) F9 N9 (fun _ h => h) (ks_int rfl (by rw [hd2]; show 16 * (n : Int) + (d : Int) = ((n * 16 + d : Nat) : Int); omega) (ks_cons rfl (ks_cons rfl (ks_cons rfl ks_nil)))) (hex4_step hi hp hd)
      · (rename Fr _ _ _ _ => F9)
        (rename News _ _ _ _ => N9)
        obtain ⟨d, hd, hd2⟩ := hex_find_ge (by assumption)
        rw [if_neg (by assumption)] at hd2
        exact FPost.turn (_, _) F9 N9 (fun _ h => h) (ks_int rfl (by rw [hd2]; show 16 * (n : Int) + (d : Int) = ((n * 16 + d : Nat) : Int); omega) (ks_cons rfl (ks_cons rfl (ks_cons rfl ks_nil)))) (hex4_step hi hp hd)
    · clear F N
      intro c u h tk0 hp F N
      obtain ⟨n, tn⟩ := c
      dsimp only [kstB] at hp F N ⊢
      (try k_fold)
      k_steps
      (rename Fr _ _ _ _ => F9)
      subst hg
      exact hR1 n _ _ _ F9.keep (hex4_full hl hp)

/-- a call of the law's hex function from a frame -/
theorem law_hex_call {w : World} {gd : Option (List Code)} {base : Heap} {outer : List Env} {s : Shared} {mean : ExcName → Option Value} {mg mb : Str → Option Value} {g : Heap} {L : Addr} {m : Str → Option Value} {env : Env} {news : List (Addr × Obj)} {n : Nat} {E Q : Value → Shared → Prop}
    {x : Str} {t tk : Tok} {k : Int} (C : Cx w mean mg mb base outer g) (F : Fr g L s.heap m) (N : News g L s.heap news) (hf : env.frame = some L) (hke : env.scope.kind = .function)
    (hx : x.length ≤ 1048576) (hk1 : 0 ≤ k) (hk2 : k ≤ x.length + 10) (hn : n ≤ 690)
    (hR1 : ∀ (kn v : Nat) h' tk' t1, (kn : Int) = k → Fr g L h' m → News g L h' news → hex4 x kn = some v → v < 65536 → kn + 4 ≤ x.length → Q (.int (v : Int) t1) { s with heap := h', toks := tk' })
    (hR2 : ∀ (kn : Nat) h' tk' t1, (kn : Int) = k → Fr g L h' m → News g L h' news → hex4 x kn = none → Q (.int (-1) t1) { s with heap := h', toks := tk' }) :
    wpAny (model Challenge.rw_ev0023_01.row.prog w) ((Ar n n gd outer).deeper env) (call (.ref 82) [.str x t, .int k tk] []) Q E s := by
  obtain ⟨kn, rfl⟩ := Int.eq_ofNat_of_zero_le hk1
  refine wpAny_call (codeAny_ctx (A' := Ar 700 700 gd (env :: outer)) (law_hex_spec (C.deeper F hf hke) hx (by omega) (fun v h' tk' t1 k1 q1 => ?_) (fun h' tk' t1 k1 q1 => ?_)) rfl (by show n + 1 ≤ 700; omega) rfl rfl (by show n + 3 ≤ 700; omega))
  · exact hR1 kn v h' tk' t1 rfl (F.keeps k1) (N.keeps k1) q1 (hex4_lt q1) (hex4_le q1)
  · exact hR2 kn h' tk' t1 rfl (F.keeps k1) (N.keeps k1) q1
end Mine
end

section
open PySem PySem.W PyProof.Rows PySem.Calls PySem.StrLaws
set_option Elab.async false
set_option maxRecDepth 100000
set_option maxHeartbeats 4000000
namespace Mine
local macro_rules | `(tactic| k_room) => `(tactic| exact Nat.le_of_ble_eq_true rfl)

local macro_rules | `(tactic| walk_at "exec While BoolOp cons nil") => `(tactic| refine Held.out ?_)
local macro_rules | `(tactic| walk_at "call ref") => `(tactic| (
  (with_reducible show wpAny _ _ (call (Value.ref 82) _ _) _ _ _)
  focus (
    k_dflt (refine' law_hex_call (by assumption) (by k_asm) (by k_asm) rfl rfl (by assumption) (by omega) (by omega) (by decide) ?_ ?_)
    (intro kn v h' tk' t1 hkn F' N' hv1 hv2 hv3; (try dsimp only))
    rotate_left
    (intro kn h' tk' t1 hkn F' N' hv1; (try dsimp only))
    rotate_right)))
local macro_rules | `(tactic| walk_at "call builtin:list.append") => `(tactic| (
  (with_reducible show wpAny _ _ (call (Value.builtin _) [Value.ref _, Value.str _ _]) _ _ _)
  k_dflt (refine' append_S (by k_asm) (by k_asm) (by first | exact List.mem_cons_self .. | exact List.mem_cons_of_mem _ (List.mem_cons_self ..)) (by (try simp only [List.length_append, List.length_cons, List.length_nil]); omega) ?_)
  intro h' F' N'; (try k_sweep)))
local macro_rules | `(tactic| walk_at "call builtin:str.join") => `(tactic| (
  k_dflt (refine' join_S (by k_asm) (by first | exact List.mem_cons_self .. | exact List.mem_cons_of_mem _ (List.mem_cons_self ..)) (by omega) ?_)
  intro Y t' k' $(Lean.mkIdent `hY)))
local macro_rules | `(tactic| walk_at "subscriptTail Name Name str int") => `(tactic| (refine item_str (v8_fits (by assumption) (by assumption)) (v8_lo (by assumption) (by assumption)) (v8_hi (by assumption) (by assumption)) ?_; intro hlen9))
structure LsSt where
  l : List (Str × Tok)
  ver : Nat
  k : Nat
  tk : Tok
  lone : Bool
  acc : List Nat

theorem law_string_spec {w : World} {gd : Option (List Code)} {base : Heap} {outer : List Env} {s : Shared} {mean : ExcName → Option Value} {mg mb : Str → Option Value} {R : Result → Shared → Prop}
    {x : Str} {t tk : Tok} {a : Nat} {strict : Bool} (C : Cx w mean mg mb base outer s.heap)
    (hx : x.length ≤ 1048576) (hk1 : 1 ≤ a) (hk2 : a ≤ x.length) (hc : ∀ c ∈ x.cps.toList, c < 1114112)
    (hR1 : ∀ mx p h' tk' D t1 t2 t3, Keeps s.heap h' → scan x strict a a [] false = .no mx p → s.heap.get? D = none → h'.get? D = some (tupOf [.str (Str.ofString "no") t1, .str mx t2, .int p t3]) → R (.ok (.ret (.ref D))) { s with heap := h', toks := tk' })
    (hR2 : ∀ acc e Y h' tk' D t1 t2 t3, Keeps s.heap h' → scan x strict a a [] false = .is acc e false → Y.cps.toList = acc → s.heap.get? D = none → h'.get? D = some (tupOf [.str (Str.ofString "is") t1, .str Y t2, .int ((e : Nat) : Int) t3]) → R (.ok (.ret (.ref D))) { s with heap := h', toks := tk' })
    (hR3 : ∀ p1 p2 h' tk' D t1 t2 t3, Keeps s.heap h' → s.heap.get? D = none → h'.get? D = some (tupOf [.str (Str.ofString "lone") t1, .int p1 t2, .int p2 t3]) → R (.ok (.ret (.ref D))) { s with heap := h', toks := tk' }) :
    codeAny (model Challenge.rw_ev0023_01.row.prog w) (Ar 680 680 gd outer) (.call (.ref 89) ⟨[.str x t, .int (a : Int) tk, .bool strict], []⟩) R s := by
  w_top off
  have B := C.below 680 gd
  have X := C.XH
  have T := C.TH
  revert X
  k_fill
  intro X
  refine' enter_def (binds := [("s", .str x t), ("at", .int (a : Int) tk), ("strict", .bool strict)]) B X T ?k1 ?k2 ?k3 ?k4 ?k5 ?_ ?k6 ?k7 ?k8 ?k9
  case k1 => k_is
  case k2 => k_is
  case k3 => exact Nat.le_of_ble_eq_true rfl
  case k4 => first | exact BindsTo.of_eq rfl | exact binds_K X rfl (by k_is) rfl rfl rfl
  case k5 => exact locs rfl
  case k6 => decide
  case k7 => exact rfl
  case k8 => exact rfl
  case k9 => exact rfl
  clear B X T
  intro g L' h₁ hg F N B' X' T' hL
  try dsimp only
  k_fold
  rw [← hg] at C
  have hg0 : s.heap = g := hg.symm
  k_steps
  (rename Fr _ _ _ _ => F)
  (rename News _ _ _ _ => N)
  refine while_my (σ := LsSt) (fun c => [("signs", .ref _), ("k", .int (c.k : Int) c.tk), ("lone", .bool c.lone), ("s", .str x t), ("at", .int (a : Int) _), ("strict", .bool strict)]) (fun c => [(_, listOf (strValues c.l).toArray c.ver)])
    (fun c => a ≤ c.k ∧ c.k ≤ x.length ∧ c.l.length ≤ c.k ∧ (flatS c.l).length ≤ c.k ∧ scan x strict a c.k c.acc c.lone = scan x strict a a [] false ∧ (c.lone = false → flatS c.l = c.acc)) (fun c => (x.length - c.k)) ⟨[], 0, a, _, false, []⟩ F N (one_led (List.mem_cons_of_mem _ (List.mem_cons_self ..))) (ks_cons rfl (ks_cons rfl (ks_cons rfl (ks_cons rfl (ks_cons rfl (ks_cons rfl ks_nil)))))) ⟨Nat.le_refl _, hk2, Nat.zero_le _, Nat.zero_le _, rfl, fun _ => rfl⟩ ?_
  clear F N
  intro c u h tk0 hp F N
  obtain ⟨l, ver, k, tn, lone, acc⟩ := c
  obtain ⟨hp1, hp2, hp3, hp4, hp5, hp6⟩ := hp
  dsimp only [kstB] at hp1 hp2 hp3 hp4 hp5 hp6 F N ⊢
  k_fold
  k_steps
  all_goals (try (have hk0 : k < x.length := by omega))
  · (rename Fr _ _ _ _ => F9); (rename News _ _ _ _ => N9)
    have hb := (item_bt hk0 (by with_reducible assumption))
    subst hg
    exact hR1 _ _ _ _ _ _ _ _ F9.keep (hp5.symm.trans (scan_cut hb (one_empty hk0 (by with_reducible assumption)))) (N9 _ (List.mem_cons_self ..)).2.2 (N9 _ (List.mem_cons_self ..)).1
  · (rename Fr _ _ _ _ => F9); (rename News _ _ _ _ => N9)
    have hb := (item_bt hk0 (by with_reducible assumption))
    have hj5 : k + 1 < x.length := one_lt (by with_reducible assumption)
    subst hg
    exact hR1 _ _ _ _ _ _ _ _ F9.keep (hp5.symm.trans (scan_noesc hb hj5 (one_nu hj5 (by with_reducible assumption)) (find8_none ((one_some hj5) ▸ (by with_reducible assumption : Txt.find T8 (Txt.slice x (some ((k : Int) + 1)) (some ((k : Int) + 2))) < 0))))) (N9 _ (List.mem_cons_self ..)).2.2 (N9 _ (List.mem_cons_self ..)).1
  · (rename Fr _ _ _ _ => F9); (rename News _ _ _ _ => N9)
    have hb := (item_bt hk0 (by with_reducible assumption))
    have hj5 : k + 1 < x.length := one_lt (by with_reducible assumption)
    have hfd := (by with_reducible assumption : ¬ Txt.find T8 (Txt.slice x (some ((k : Int) + 1)) (some ((k : Int) + 2))) < 0)
    rw [one_some hj5] at hfd
    obtain ⟨d, hd1, hd2⟩ := find8_some hfd
    have hu := one_nu hj5 (by with_reducible assumption)
    have hy : (Txt.item V8 (Txt.find T8 (Txt.slice x (some ((k : Int) + 1)) (some ((k : Int) + 2))))).cps.toList = [d] := by rw [one_some hj5, hd2]
    refine WPost.turn ⟨_, _, k + 2, _, lone, acc ++ [d]⟩ F9 N9 (one_led (List.mem_cons_self ..)) (ks_cons rfl (ks_cons rfl (ks_cons rfl (ks_cons rfl (ks_cons rfl (ks_cons rfl ks_nil)))))) ⟨by show a ≤ k + 2; omega, by show k + 2 ≤ x.length; omega, ?_, ?_, ?_, fun hl => ?_⟩ (by show x.length - (k + 2) < x.length - k; omega)
    · show (l ++ [_]).length ≤ k + 2
      rw [List.length_append]
      show _ + 1 ≤ k + 2
      omega
    · show (flatS (l ++ [_])).length ≤ k + 2
      rw [flatS_snoc, List.length_append, hy]
      show _ + 1 ≤ k + 2
      omega
    · show scan x strict a (k + 2) (acc ++ [d]) lone = _
      rw [← hp5, scan_esc hb hj5 hu hd1]
    · show flatS (l ++ [_]) = acc ++ [d]
      rw [flatS_snoc, hy, hp6 hl]
  · (rename Fr _ _ _ _ => F9); (rename News _ _ _ _ => N9)
    have hb := (item_bt hk0 (by with_reducible assumption))
    have hj5 : k + 1 < x.length := one_lt (by with_reducible assumption)
    have hu := one_u hj5 (by with_reducible assumption)
    obtain ⟨num, hN, ho1, ho2⟩ := ls_two hb hj5 hu (by with_reducible assumption) (by with_reducible assumption) (by with_reducible assumption) (by with_reducible assumption) (by with_reducible assumption) (by with_reducible assumption) (by with_reducible assumption)
    refine WPost.turn ⟨_, _, k + 6 + 6, _, _, acc ++ [num]⟩ F9 N9 (one_led (List.mem_cons_self ..)) (ks_cons rfl (ks_cons rfl (ks_cons rfl (ks_cons rfl (ks_cons rfl (ks_cons rfl ks_nil)))))) ⟨by show a ≤ k + 6 + 6; omega, ho1, ?_, ?_, ls_scan ho2 (lone_t (by with_reducible assumption)) hp5, ls_flat (lone_t (by with_reducible assumption)) (fun _ => y_num hN) hp6⟩ (by show x.length - (k + 6 + 6) < x.length - k; omega)
    · show (l ++ [_]).length ≤ k + 6 + 6
      rw [List.length_append]
      show _ + 1 ≤ k + 6 + 6
      omega
    · show (flatS (l ++ [_])).length ≤ k + 6 + 6
      rw [flatS_snoc, List.length_append]
      have : ∀ y : Str, y.cps.toList.length ≤ 1 → (flatS l).length + y.cps.toList.length ≤ k + 6 + 6 := fun y hy => by omega
      exact this _ (by first | exact Nat.le_refl _ | exact Nat.zero_le _ | decide)
  · (rename Fr _ _ _ _ => F9); (rename News _ _ _ _ => N9)
    have hb := (item_bt hk0 (by with_reducible assumption))
    have hj5 : k + 1 < x.length := one_lt (by with_reducible assumption)
    have hu := one_u hj5 (by with_reducible assumption)
    obtain ⟨num, hN, ho1, ho2⟩ := ls_two hb hj5 hu (by with_reducible assumption) (by with_reducible assumption) (by with_reducible assumption) (by with_reducible assumption) (by with_reducible assumption) (by with_reducible assumption) (by with_reducible assumption)
    refine WPost.turn ⟨_, _, k + 6 + 6, _, _, acc ++ [num]⟩ F9 N9 (one_led (List.mem_cons_self ..)) (ks_cons rfl (ks_cons rfl (ks_cons rfl (ks_cons rfl (ks_cons rfl (ks_cons rfl ks_nil)))))) ⟨by show a ≤ k + 6 + 6; omega, ho1, ?_, ?_, ls_scan ho2 (lone_t (by with_reducible assumption)) hp5, ls_flat (lone_t (by with_reducible assumption)) (fun h => Bool.noConfusion (h.symm.trans (by with_reducible assumption : lone = true))) hp6⟩ (by show x.length - (k + 6 + 6) < x.length - k; omega)
    · show (l ++ [_]).length ≤ k + 6 + 6
      rw [List.length_append]
      show _ + 1 ≤ k + 6 + 6
      omega
    · show (flatS (l ++ [_])).length ≤ k + 6 + 6
      rw [flatS_snoc, List.length_append]
      have : ∀ y : Str, y.cps.toList.length ≤ 1 → (flatS l).length + y.cps.toList.length ≤ k + 6 + 6 := fun y hy => by omega
      exact this _ (by first | exact Nat.le_refl _ | exact Nat.zero_le _ | decide)
  · (rename Fr _ _ _ _ => F9); (rename News _ _ _ _ => N9)
    have hb := (item_bt hk0 (by with_reducible assumption))
    have hj5 : k + 1 < x.length := one_lt (by with_reducible assumption)
    have hu := one_u hj5 (by with_reducible assumption)
    obtain ⟨num, hN, ho1, ho2⟩ := ls_two hb hj5 hu (by with_reducible assumption) (by with_reducible assumption) (by with_reducible assumption) (by with_reducible assumption) (by with_reducible assumption) (by with_reducible assumption) (by with_reducible assumption)
    refine WPost.turn ⟨_, _, k + 6 + 6, _, _, acc ++ [num]⟩ F9 N9 (one_led (List.mem_cons_self ..)) (ks_cons rfl (ks_cons rfl (ks_cons rfl (ks_cons rfl (ks_cons rfl (ks_cons rfl ks_nil)))))) ⟨by show a ≤ k + 6 + 6; omega, ho1, ?_, ?_, ls_scan ho2 (lone_f (by with_reducible assumption) hN) hp5, ls_flat (lone_f (by with_reducible assumption) hN) (fun _ => y_num hN) hp6⟩ (by show x.length - (k + 6 + 6) < x.length - k; omega)
    · show (l ++ [_]).length ≤ k + 6 + 6
      rw [List.length_append]
      show _ + 1 ≤ k + 6 + 6
      omega
    · show (flatS (l ++ [_])).length ≤ k + 6 + 6
      rw [flatS_snoc, List.length_append]
      have : ∀ y : Str, y.cps.toList.length ≤ 1 → (flatS l).length + y.cps.toList.length ≤ k + 6 + 6 := fun y hy => by omega
      exact this _ (by first | exact Nat.le_refl _ | exact Nat.zero_le _ | decide)
  · (rename Fr _ _ _ _ => F9); (rename News _ _ _ _ => N9)
    have hb := (item_bt hk0 (by with_reducible assumption))
    have hj5 : k + 1 < x.length := one_lt (by with_reducible assumption)
    have hu := one_u hj5 (by with_reducible assumption)
    obtain ⟨num, hN, ho1, ho2⟩ := ls_two hb hj5 hu (by with_reducible assumption) (by with_reducible assumption) (by with_reducible assumption) (by with_reducible assumption) (by with_reducible assumption) (by with_reducible assumption) (by with_reducible assumption)
    refine WPost.turn ⟨_, _, k + 6 + 6, _, _, acc ++ [num]⟩ F9 N9 (one_led (List.mem_cons_self ..)) (ks_cons rfl (ks_cons rfl (ks_cons rfl (ks_cons rfl (ks_cons rfl (ks_cons rfl ks_nil)))))) ⟨by show a ≤ k + 6 + 6; omega, ho1, ?_, ?_, ls_scan ho2 (lone_f (by with_reducible assumption) hN) hp5, ls_flat (lone_f (by with_reducible assumption) hN) (fun h => y_no (by with_reducible assumption) h) hp6⟩ (by show x.length - (k + 6 + 6) < x.length - k; omega)
    · show (l ++ [_]).length ≤ k + 6 + 6
      rw [List.length_append]
      show _ + 1 ≤ k + 6 + 6
      omega
    · show (flatS (l ++ [_])).length ≤ k + 6 + 6
      rw [flatS_snoc, List.length_append]
      have : ∀ y : Str, y.cps.toList.length ≤ 1 → (flatS l).length + y.cps.toList.length ≤ k + 6 + 6 := fun y hy => by omega
      exact this _ (by first | exact Nat.le_refl _ | exact Nat.zero_le _ | decide)
  · (rename Fr _ _ _ _ => F9); (rename News _ _ _ _ => N9)
    have hb := (item_bt hk0 (by with_reducible assumption))
    have hj5 : k + 1 < x.length := one_lt (by with_reducible assumption)
    have hu := one_u hj5 (by with_reducible assumption)
    obtain ⟨ho1, ho2⟩ := ls_half hb hj5 hu (by with_reducible assumption) (by with_reducible assumption) (by with_reducible assumption) (by with_reducible assumption) (by with_reducible assumption) (by with_reducible assumption) (by with_reducible assumption)
    refine WPost.turn ⟨_, _, k + 6, _, _, acc ++ [_]⟩ F9 N9 (one_led (List.mem_cons_self ..)) (ks_cons rfl (ks_cons rfl (ks_cons rfl (ks_cons rfl (ks_cons rfl (ks_cons rfl ks_nil)))))) ⟨by show a ≤ k + 6; omega, ho1, ?_, ?_, ls_scan ho2 (lone_t (by with_reducible assumption)) hp5, ls_flat (lone_t (by with_reducible assumption)) (fun _ => y_num rfl) hp6⟩ (by show x.length - (k + 6) < x.length - k; omega)
    · show (l ++ [_]).length ≤ k + 6
      rw [List.length_append]
      show _ + 1 ≤ k + 6
      omega
    · show (flatS (l ++ [_])).length ≤ k + 6
      rw [flatS_snoc, List.length_append]
      have : ∀ y : Str, y.cps.toList.length ≤ 1 → (flatS l).length + y.cps.toList.length ≤ k + 6 := fun y hy => by omega
      exact this _ (by first | exact Nat.le_refl _ | exact Nat.zero_le _ | decide)
  · (rename Fr _ _ _ _ => F9); (rename News _ _ _ _ => N9)
    have hb := (item_bt hk0 (by with_reducible assumption))
    have hj5 : k + 1 < x.length := one_lt (by with_reducible assumption)
    have hu := one_u hj5 (by with_reducible assumption)
    obtain ⟨ho1, ho2⟩ := ls_half hb hj5 hu (by with_reducible assumption) (by with_reducible assumption) (by with_reducible assumption) (by with_reducible assumption) (by with_reducible assumption) (by with_reducible assumption) (by with_reducible assumption)
    refine WPost.turn ⟨_, _, k + 6, _, _, acc ++ [_]⟩ F9 N9 (one_led (List.mem_cons_self ..)) (ks_cons rfl (ks_cons rfl (ks_cons rfl (ks_cons rfl (ks_cons rfl (ks_cons rfl ks_nil)))))) ⟨by show a ≤ k + 6; omega, ho1, ?_, ?_, ls_scan ho2 (lone_t (by with_reducible assumption)) hp5, ls_flat (lone_t (by with_reducible assumption)) (fun h => Bool.noConfusion (h.symm.trans (by with_reducible assumption : lone = true))) hp6⟩ (by show x.length - (k + 6) < x.length - k; omega)
    · show (l ++ [_]).length ≤ k + 6
      rw [List.length_append]
      show _ + 1 ≤ k + 6
      omega
    · show (flatS (l ++ [_])).length ≤ k + 6
      rw [flatS_snoc, List.length_append]
      have : ∀ y : Str, y.cps.toList.length ≤ 1 → (flatS l).length + y.cps.toList.length ≤ k + 6 := fun y hy => by omega
      exact this _ (by first | exact Nat.le_refl _ | exact Nat.zero_le _ | decide)
  · (rename Fr _ _ _ _ => F9); (rename News _ _ _ _ => N9)
    have hb := (item_bt hk0 (by with_reducible assumption))
    have hj5 : k + 1 < x.length := one_lt (by with_reducible assumption)
    have hu := one_u hj5 (by with_reducible assumption)
    obtain ⟨ho1, ho2⟩ := ls_half hb hj5 hu (by with_reducible assumption) (by with_reducible assumption) (by with_reducible assumption) (by with_reducible assumption) (by with_reducible assumption) (by with_reducible assumption) (by with_reducible assumption)
    refine WPost.turn ⟨_, _, k + 6, _, _, acc ++ [_]⟩ F9 N9 (one_led (List.mem_cons_self ..)) (ks_cons rfl (ks_cons rfl (ks_cons rfl (ks_cons rfl (ks_cons rfl (ks_cons rfl ks_nil)))))) ⟨by show a ≤ k + 6; omega, ho1, ?_, ?_, ls_scan ho2 (lone_f (by with_reducible assumption) rfl) hp5, ls_flat (lone_f (by with_reducible assumption) rfl) (fun _ => y_num rfl) hp6⟩ (by show x.length - (k + 6) < x.length - k; omega)
    · show (l ++ [_]).length ≤ k + 6
      rw [List.length_append]
      show _ + 1 ≤ k + 6
      omega
    · show (flatS (l ++ [_])).length ≤ k + 6
      rw [flatS_snoc, List.length_append]
      have : ∀ y : Str, y.cps.toList.length ≤ 1 → (flatS l).length + y.cps.toList.length ≤ k + 6 := fun y hy => by omega
      exact this _ (by first | exact Nat.le_refl _ | exact Nat.zero_le _ | decide)
  · (rename Fr _ _ _ _ => F9); (rename News _ _ _ _ => N9)
    have hb := (item_bt hk0 (by with_reducible assumption))
    have hj5 : k + 1 < x.length := one_lt (by with_reducible assumption)
    have hu := one_u hj5 (by with_reducible assumption)
    obtain ⟨ho1, ho2⟩ := ls_half hb hj5 hu (by with_reducible assumption) (by with_reducible assumption) (by with_reducible assumption) (by with_reducible assumption) (by with_reducible assumption) (by with_reducible assumption) (by with_reducible assumption)
    refine WPost.turn ⟨_, _, k + 6, _, _, acc ++ [_]⟩ F9 N9 (one_led (List.mem_cons_self ..)) (ks_cons rfl (ks_cons rfl (ks_cons rfl (ks_cons rfl (ks_cons rfl (ks_cons rfl ks_nil)))))) ⟨by show a ≤ k + 6; omega, ho1, ?_, ?_, ls_scan ho2 (lone_f (by with_reducible assumption) rfl) hp5, ls_flat (lone_f (by with_reducible assumption) rfl) (fun h => y_no (by with_reducible assumption) h) hp6⟩ (by show x.length - (k + 6) < x.length - k; omega)
    · show (l ++ [_]).length ≤ k + 6
      rw [List.length_append]
      show _ + 1 ≤ k + 6
      omega
    · show (flatS (l ++ [_])).length ≤ k + 6
      rw [flatS_snoc, List.length_append]
      have : ∀ y : Str, y.cps.toList.length ≤ 1 → (flatS l).length + y.cps.toList.length ≤ k + 6 := fun y hy => by omega
      exact this _ (by first | exact Nat.le_refl _ | exact Nat.zero_le _ | decide)
  · (rename Fr _ _ _ _ => F9); (rename News _ _ _ _ => N9)
    have hb := (item_bt hk0 (by with_reducible assumption))
    have hj5 : k + 1 < x.length := one_lt (by with_reducible assumption)
    have hu := one_u hj5 (by with_reducible assumption)
    subst hg
    exact hR1 _ _ _ _ _ _ _ _ F9.keep (hp5.symm.trans (ls_nohex2 hb hj5 hu (by with_reducible assumption) (by with_reducible assumption) (by with_reducible assumption) (by with_reducible assumption) (by with_reducible assumption) (by with_reducible assumption))) (N9 _ (List.mem_cons_self ..)).2.2 (N9 _ (List.mem_cons_self ..)).1
  · (rename Fr _ _ _ _ => F9); (rename News _ _ _ _ => N9)
    have hb := (item_bt hk0 (by with_reducible assumption))
    have hj5 : k + 1 < x.length := one_lt (by with_reducible assumption)
    have hu := one_u hj5 (by with_reducible assumption)
    obtain ⟨ho1, ho2⟩ := ls_nopair hb hj5 hu (by with_reducible assumption) (by with_reducible assumption) (by with_reducible assumption)
    refine WPost.turn ⟨_, _, k + 6, _, _, acc ++ [_]⟩ F9 N9 (one_led (List.mem_cons_self ..)) (ks_cons rfl (ks_cons rfl (ks_cons rfl (ks_cons rfl (ks_cons rfl (ks_cons rfl ks_nil)))))) ⟨by show a ≤ k + 6; omega, ho1, ?_, ?_, ls_scan ho2 (lone_t (by with_reducible assumption)) hp5, ls_flat (lone_t (by with_reducible assumption)) (fun _ => y_num rfl) hp6⟩ (by show x.length - (k + 6) < x.length - k; omega)
    · show (l ++ [_]).length ≤ k + 6
      rw [List.length_append]
      show _ + 1 ≤ k + 6
      omega
    · show (flatS (l ++ [_])).length ≤ k + 6
      rw [flatS_snoc, List.length_append]
      have : ∀ y : Str, y.cps.toList.length ≤ 1 → (flatS l).length + y.cps.toList.length ≤ k + 6 := fun y hy => by omega
      exact this _ (by first | exact Nat.le_refl _ | exact Nat.zero_le _ | decide)
  · (rename Fr _ _ _ _ => F9); (rename News _ _ _ _ => N9)
    have hb := (item_bt hk0 (by with_reducible assumption))
    have hj5 : k + 1 < x.length := one_lt (by with_reducible assumption)
    have hu := one_u hj5 (by with_reducible assumption)
    obtain ⟨ho1, ho2⟩ := ls_nopair hb hj5 hu (by with_reducible assumption) (by with_reducible assumption) (by with_reducible assumption)
    refine WPost.turn ⟨_, _, k + 6, _, _, acc ++ [_]⟩ F9 N9 (one_led (List.mem_cons_self ..)) (ks_cons rfl (ks_cons rfl (ks_cons rfl (ks_cons rfl (ks_cons rfl (ks_cons rfl ks_nil)))))) ⟨by show a ≤ k + 6; omega, ho1, ?_, ?_, ls_scan ho2 (lone_t (by with_reducible assumption)) hp5, ls_flat (lone_t (by with_reducible assumption)) (fun h => Bool.noConfusion (h.symm.trans (by with_reducible assumption : lone = true))) hp6⟩ (by show x.length - (k + 6) < x.length - k; omega)
    · show (l ++ [_]).length ≤ k + 6
      rw [List.length_append]
      show _ + 1 ≤ k + 6
      omega
    · show (flatS (l ++ [_])).length ≤ k + 6
      rw [flatS_snoc, List.length_append]
      have : ∀ y : Str, y.cps.toList.length ≤ 1 → (flatS l).length + y.cps.toList.length ≤ k + 6 := fun y hy => by omega
      exact this _ (by first | exact Nat.le_refl _ | exact Nat.zero_le _ | decide)
  · (rename Fr _ _ _ _ => F9); (rename News _ _ _ _ => N9)
    have hb := (item_bt hk0 (by with_reducible assumption))
    have hj5 : k + 1 < x.length := one_lt (by with_reducible assumption)
    have hu := one_u hj5 (by with_reducible assumption)
    obtain ⟨ho1, ho2⟩ := ls_nopair hb hj5 hu (by with_reducible assumption) (by with_reducible assumption) (by with_reducible assumption)
    refine WPost.turn ⟨_, _, k + 6, _, _, acc ++ [_]⟩ F9 N9 (one_led (List.mem_cons_self ..)) (ks_cons rfl (ks_cons rfl (ks_cons rfl (ks_cons rfl (ks_cons rfl (ks_cons rfl ks_nil)))))) ⟨by show a ≤ k + 6; omega, ho1, ?_, ?_, ls_scan ho2 (lone_f (by with_reducible assumption) rfl) hp5, ls_flat (lone_f (by with_reducible assumption) rfl) (fun _ => y_num rfl) hp6⟩ (by show x.length - (k + 6) < x.length - k; omega)
    · show (l ++ [_]).length ≤ k + 6
      rw [List.length_append]
      show _ + 1 ≤ k + 6
      omega
    · show (flatS (l ++ [_])).length ≤ k + 6
      rw [flatS_snoc, List.length_append]
      have : ∀ y : Str, y.cps.toList.length ≤ 1 → (flatS l).length + y.cps.toList.length ≤ k + 6 := fun y hy => by omega
      exact this _ (by first | exact Nat.le_refl _ | exact Nat.zero_le _ | decide)
  · (rename Fr _ _ _ _ => F9); (rename News _ _ _ _ => N9)
    have hb := (item_bt hk0 (by with_reducible assumption))
    have hj5 : k + 1 < x.length := one_lt (by with_reducible assumption)
    have hu := one_u hj5 (by with_reducible assumption)
    obtain ⟨ho1, ho2⟩ := ls_nopair hb hj5 hu (by with_reducible assumption) (by with_reducible assumption) (by with_reducible assumption)
    refine WPost.turn ⟨_, _, k + 6, _, _, acc ++ [_]⟩ F9 N9 (one_led (List.mem_cons_self ..)) (ks_cons rfl (ks_cons rfl (ks_cons rfl (ks_cons rfl (ks_cons rfl (ks_cons rfl ks_nil)))))) ⟨by show a ≤ k + 6; omega, ho1, ?_, ?_, ls_scan ho2 (lone_f (by with_reducible assumption) rfl) hp5, ls_flat (lone_f (by with_reducible assumption) rfl) (fun h => y_no (by with_reducible assumption) h) hp6⟩ (by show x.length - (k + 6) < x.length - k; omega)
    · show (l ++ [_]).length ≤ k + 6
      rw [List.length_append]
      show _ + 1 ≤ k + 6
      omega
    · show (flatS (l ++ [_])).length ≤ k + 6
      rw [flatS_snoc, List.length_append]
      have : ∀ y : Str, y.cps.toList.length ≤ 1 → (flatS l).length + y.cps.toList.length ≤ k + 6 := fun y hy => by omega
      exact this _ (by first | exact Nat.le_refl _ | exact Nat.zero_le _ | decide)
  · (rename Fr _ _ _ _ => F9); (rename News _ _ _ _ => N9)
    have hb := (item_bt hk0 (by with_reducible assumption))
    have hj5 : k + 1 < x.length := one_lt (by with_reducible assumption)
    have hu := one_u hj5 (by with_reducible assumption)
    obtain ⟨ho1, ho2⟩ := ls_one hb hj5 hu (by with_reducible assumption) (by with_reducible assumption) (by with_reducible assumption)
    refine WPost.turn ⟨_, _, k + 6, _, _, acc ++ [_]⟩ F9 N9 (one_led (List.mem_cons_self ..)) (ks_cons rfl (ks_cons rfl (ks_cons rfl (ks_cons rfl (ks_cons rfl (ks_cons rfl ks_nil)))))) ⟨by show a ≤ k + 6; omega, ho1, ?_, ?_, ls_scan ho2 (lone_t (by with_reducible assumption)) hp5, ls_flat (lone_t (by with_reducible assumption)) (fun _ => y_num rfl) hp6⟩ (by show x.length - (k + 6) < x.length - k; omega)
    · show (l ++ [_]).length ≤ k + 6
      rw [List.length_append]
      show _ + 1 ≤ k + 6
      omega
    · show (flatS (l ++ [_])).length ≤ k + 6
      rw [flatS_snoc, List.length_append]
      have : ∀ y : Str, y.cps.toList.length ≤ 1 → (flatS l).length + y.cps.toList.length ≤ k + 6 := fun y hy => by omega
      exact this _ (by first | exact Nat.le_refl _ | exact Nat.zero_le _ | decide)
  · (rename Fr _ _ _ _ => F9); (rename News _ _ _ _ => N9)
    have hb := (item_bt hk0 (by with_reducible assumption))
    have hj5 : k + 1 < x.length := one_lt (by with_reducible assumption)
    have hu := one_u hj5 (by with_reducible assumption)
    obtain ⟨ho1, ho2⟩ := ls_one hb hj5 hu (by with_reducible assumption) (by with_reducible assumption) (by with_reducible assumption)
    refine WPost.turn ⟨_, _, k + 6, _, _, acc ++ [_]⟩ F9 N9 (one_led (List.mem_cons_self ..)) (ks_cons rfl (ks_cons rfl (ks_cons rfl (ks_cons rfl (ks_cons rfl (ks_cons rfl ks_nil)))))) ⟨by show a ≤ k + 6; omega, ho1, ?_, ?_, ls_scan ho2 (lone_t (by with_reducible assumption)) hp5, ls_flat (lone_t (by with_reducible assumption)) (fun h => Bool.noConfusion (h.symm.trans (by with_reducible assumption : lone = true))) hp6⟩ (by show x.length - (k + 6) < x.length - k; omega)
    · show (l ++ [_]).length ≤ k + 6
      rw [List.length_append]
      show _ + 1 ≤ k + 6
      omega
    · show (flatS (l ++ [_])).length ≤ k + 6
      rw [flatS_snoc, List.length_append]
      have : ∀ y : Str, y.cps.toList.length ≤ 1 → (flatS l).length + y.cps.toList.length ≤ k + 6 := fun y hy => by omega
      exact this _ (by first | exact Nat.le_refl _ | exact Nat.zero_le _ | decide)
  · (rename Fr _ _ _ _ => F9); (rename News _ _ _ _ => N9)
    have hb := (item_bt hk0 (by with_reducible assumption))
    have hj5 : k + 1 < x.length := one_lt (by with_reducible assumption)
    have hu := one_u hj5 (by with_reducible assumption)
    obtain ⟨ho1, ho2⟩ := ls_one hb hj5 hu (by with_reducible assumption) (by with_reducible assumption) (by with_reducible assumption)
    refine WPost.turn ⟨_, _, k + 6, _, _, acc ++ [_]⟩ F9 N9 (one_led (List.mem_cons_self ..)) (ks_cons rfl (ks_cons rfl (ks_cons rfl (ks_cons rfl (ks_cons rfl (ks_cons rfl ks_nil)))))) ⟨by show a ≤ k + 6; omega, ho1, ?_, ?_, ls_scan ho2 (lone_f (by with_reducible assumption) rfl) hp5, ls_flat (lone_f (by with_reducible assumption) rfl) (fun _ => y_num rfl) hp6⟩ (by show x.length - (k + 6) < x.length - k; omega)
    · show (l ++ [_]).length ≤ k + 6
      rw [List.length_append]
      show _ + 1 ≤ k + 6
      omega
    · show (flatS (l ++ [_])).length ≤ k + 6
      rw [flatS_snoc, List.length_append]
      have : ∀ y : Str, y.cps.toList.length ≤ 1 → (flatS l).length + y.cps.toList.length ≤ k + 6 := fun y hy => by omega
      exact this _ (by first | exact Nat.le_refl _ | exact Nat.zero_le _ | decide)
  · (rename Fr _ _ _ _ => F9); (rename News _ _ _ _ => N9)
    have hb := (item_bt hk0 (by with_reducible assumption))
    have hj5 : k + 1 < x.length := one_lt (by with_reducible assumption)
    have hu := one_u hj5 (by with_reducible assumption)
    obtain ⟨ho1, ho2⟩ := ls_one hb hj5 hu (by with_reducible assumption) (by with_reducible assumption) (by with_reducible assumption)
    refine WPost.turn ⟨_, _, k + 6, _, _, acc ++ [_]⟩ F9 N9 (one_led (List.mem_cons_self ..)) (ks_cons rfl (ks_cons rfl (ks_cons rfl (ks_cons rfl (ks_cons rfl (ks_cons rfl ks_nil)))))) ⟨by show a ≤ k + 6; omega, ho1, ?_, ?_, ls_scan ho2 (lone_f (by with_reducible assumption) rfl) hp5, ls_flat (lone_f (by with_reducible assumption) rfl) (fun h => y_no (by with_reducible assumption) h) hp6⟩ (by show x.length - (k + 6) < x.length - k; omega)
    · show (l ++ [_]).length ≤ k + 6
      rw [List.length_append]
      show _ + 1 ≤ k + 6
      omega
    · show (flatS (l ++ [_])).length ≤ k + 6
      rw [flatS_snoc, List.length_append]
      have : ∀ y : Str, y.cps.toList.length ≤ 1 → (flatS l).length + y.cps.toList.length ≤ k + 6 := fun y hy => by omega
      exact this _ (by first | exact Nat.le_refl _ | exact Nat.zero_le _ | decide)
  · (rename Fr _ _ _ _ => F9); (rename News _ _ _ _ => N9)
    have hb := (item_bt hk0 (by with_reducible assumption))
    have hj5 : k + 1 < x.length := one_lt (by with_reducible assumption)
    have hu := one_u hj5 (by with_reducible assumption)
    subst hg
    exact hR1 _ _ _ _ _ _ _ _ F9.keep (hp5.symm.trans (ls_nohex hb hj5 hu (by with_reducible assumption) (by with_reducible assumption))) (N9 _ (List.mem_cons_self ..)).2.2 (N9 _ (List.mem_cons_self ..)).1
  · (rename Fr _ _ _ _ => F9); (rename News _ _ _ _ => N9)
    have h34 := item_nq hk0 (by with_reducible assumption)
    have h92 := item_nb hk0 (by with_reducible assumption)
    have h32 := item_lt hk0 (by with_reducible assumption)
    have hst := (by with_reducible assumption : strict = true)
    subst hst
    subst hg
    exact hR1 _ _ _ _ _ _ _ _ F9.keep (hp5.symm.trans (scan_ctl hk0 h34 h92 h32)) (N9 _ (List.mem_cons_self ..)).2.2 (N9 _ (List.mem_cons_self ..)).1
  · (rename Fr _ _ _ _ => F9); (rename News _ _ _ _ => N9)
    have h34 := item_nq hk0 (by with_reducible assumption)
    have h92 := item_nb hk0 (by with_reducible assumption)
    refine WPost.turn ⟨_, _, k + 1, _, lone, acc ++ [cpAt x k]⟩ F9 N9 (one_led (List.mem_cons_self ..)) (ks_cons rfl (ks_cons rfl (ks_cons rfl (ks_cons rfl (ks_cons rfl (ks_cons rfl ks_nil)))))) ⟨by show a ≤ k + 1; omega, by show k + 1 ≤ x.length; omega, ?_, ?_, ?_, fun hl => ?_⟩ (by show x.length - (k + 1) < x.length - k; omega)
    · show (l ++ [_]).length ≤ k + 1
      rw [List.length_append]
      show _ + 1 ≤ k + 1
      omega
    · show (flatS (l ++ [_])).length ≤ k + 1
      rw [flatS_snoc, List.length_append, item_eq hk0]
      show _ + 1 ≤ k + 1
      omega
    · show scan x strict a (k + 1) (acc ++ [cpAt x k]) lone = _
      rw [← hp5, scan_sign (k := k) hk0 h34 h92 (fun _ => by with_reducible assumption)]
    · show flatS (l ++ [_]) = acc ++ [cpAt x k]
      rw [flatS_snoc, item_eq hk0, hp6 hl]
  · (rename Fr _ _ _ _ => F9); (rename News _ _ _ _ => N9)
    have h34 := item_nq hk0 (by with_reducible assumption)
    have h92 := item_nb hk0 (by with_reducible assumption)
    refine WPost.turn ⟨_, _, k + 1, _, lone, acc ++ [cpAt x k]⟩ F9 N9 (one_led (List.mem_cons_self ..)) (ks_cons rfl (ks_cons rfl (ks_cons rfl (ks_cons rfl (ks_cons rfl (ks_cons rfl ks_nil)))))) ⟨by show a ≤ k + 1; omega, by show k + 1 ≤ x.length; omega, ?_, ?_, ?_, fun hl => ?_⟩ (by show x.length - (k + 1) < x.length - k; omega)
    · show (l ++ [_]).length ≤ k + 1
      rw [List.length_append]
      show _ + 1 ≤ k + 1
      omega
    · show (flatS (l ++ [_])).length ≤ k + 1
      rw [flatS_snoc, List.length_append, item_eq hk0]
      show _ + 1 ≤ k + 1
      omega
    · show scan x strict a (k + 1) (acc ++ [cpAt x k]) lone = _
      rw [← hp5, scan_sign (k := k) hk0 h34 h92 (fun z => absurd z (item_ge hk0 (by with_reducible assumption)))]
    · show flatS (l ++ [_]) = acc ++ [cpAt x k]
      rw [flatS_snoc, item_eq hk0, hp6 hl]
  · (rename Fr _ _ _ _ => F9); (rename News _ _ _ _ => N9)
    subst hg
    exact hR3 _ _ _ _ _ _ _ _ F9.keep (N9 _ (List.mem_cons_self ..)).2.2 (N9 _ (List.mem_cons_self ..)).1
  · (rename Fr _ _ _ _ => F9); (rename News _ _ _ _ => N9)
    subst hg
    have hq := scan_quote (strict := strict) (a := a) (acc := acc) (lone := lone) hk0 (item_nqf hk0 (by with_reducible assumption))
    have hlf := (by with_reducible assumption : lone = false)
    rw [hp5, hlf] at hq
    exact hR2 _ (k + 1) _ _ _ _ _ _ _ F9.keep hq (hY.trans (hp6 hlf)) (N9 _ (List.mem_cons_self ..)).2.2 (N9 _ (List.mem_cons_self ..)).1
  · (rename Fr _ _ _ _ => F9); (rename News _ _ _ _ => N9)
    subst hg
    exact hR1 _ _ _ _ _ _ _ _ F9.keep (hp5.symm.trans (scan_end (by omega))) (N9 _ (List.mem_cons_self ..)).2.2 (N9 _ (List.mem_cons_self ..)).1

/-- a call of the law's own walk from a frame -/
theorem law_string_call {w : World} {gd : Option (List Code)} {base : Heap} {outer : List Env} {s : Shared} {mean : ExcName → Option Value} {mg mb : Str → Option Value} {g : Heap} {L : Addr} {m : Str → Option Value} {env : Env} {news : List (Addr × Obj)} {n : Nat} {E Q : Value → Shared → Prop}
    {x : Str} {t tk : Tok} {a : Nat} {strict : Bool} (C : Cx w mean mg mb base outer g) (F : Fr g L s.heap m) (N : News g L s.heap news) (hf : env.frame = some L) (hke : env.scope.kind = .function)
    (hx : x.length ≤ 1048576) (hk1 : 1 ≤ a) (hk2 : a ≤ x.length) (hc : ∀ c ∈ x.cps.toList, c < 1114112) (hn : n ≤ 670)
    (hR1 : ∀ mx p h' tk' D t1 t2 t3, Fr g L h' m → News g L h' ((D, tupOf [.str (Str.ofString "no") t1, .str mx t2, .int p t3]) :: news) → (∀ p ∈ news, p.1 ≠ D) → scan x strict a a [] false = .no mx p → Q (.ref D) { s with heap := h', toks := tk' })
    (hR2 : ∀ acc e Y h' tk' D t1 t2 t3, Fr g L h' m → News g L h' ((D, tupOf [.str (Str.ofString "is") t1, .str Y t2, .int ((e : Nat) : Int) t3]) :: news) → (∀ p ∈ news, p.1 ≠ D) → scan x strict a a [] false = .is acc e false → Y.cps.toList = acc → Q (.ref D) { s with heap := h', toks := tk' })
    (hR3 : ∀ p1 p2 h' tk' D t1 t2 t3, Fr g L h' m → News g L h' ((D, tupOf [.str (Str.ofString "lone") t1, .int p1 t2, .int p2 t3]) :: news) → (∀ p ∈ news, p.1 ≠ D) → Q (.ref D) { s with heap := h', toks := tk' }) :
    wpAny (model Challenge.rw_ev0023_01.row.prog w) ((Ar n n gd outer).deeper env) (call (.ref 89) [.str x t, .int (a : Int) tk, .bool strict] []) Q E s := by
  refine wpAny_call (codeAny_ctx (A' := Ar 680 680 gd (env :: outer)) (law_string_spec (C.deeper F hf hke) hx hk1 hk2 hc (fun mx p h' tk' D t1 t2 t3 k1 q1 q2 q3 => ?_) (fun acc e Y h' tk' D t1 t2 t3 k1 q1 q2 q3 q4 => ?_) (fun p1 p2 h' tk' D t1 t2 t3 k1 q3 q4 => ?_)) rfl (by show n + 1 ≤ 680; omega) rfl rfl (by show n + 3 ≤ 680; omega))
  · obtain ⟨N1, n1⟩ := news_new F N k1 q2 q3
    exact hR1 mx p h' tk' D t1 t2 t3 (F.keeps k1) N1 n1 q1
  · obtain ⟨N1, n1⟩ := news_new F N k1 q3 q4
    exact hR2 acc e Y h' tk' D t1 t2 t3 (F.keeps k1) N1 n1 q1 q2
  · obtain ⟨N1, n1⟩ := news_new F N k1 q3 q4
    exact hR3 p1 p2 h' tk' D t1 t2 t3 (F.keeps k1) N1 n1
end Mine
end

section
open PySem PySem.W PyProof.Rows PySem.Calls PySem.Builtin PySem.Builtin.ObjectAttr
set_option Elab.async false
set_option maxRecDepth 100000
set_option maxHeartbeats 4000000
namespace Mine
section
variable {prog : Program} {w : World} {A : Around} {E : Value → Shared → Prop} {h : Heap} {g : Array GenState} {d : Drawn} {t : Nat} {os : OsState}
variable {nm q : Str} {C N x dx t0 : Addr} {o od : Obj} {bs bm : List Value} {sn : List Str} {sub : List Value} {ab : Bool} {col : Option Bool} {dd : Option Addr} {k0 k1 k2 k3 k5 : Option Value} {B newId : String}
  {mN mA : Str → Option Value} {name : Str} {v : Value}
theorem exc_get_entry {tk : Tok} {Q : Fin → Shared → Prop} (FB : ExcAttrBase B bm)
    (hC : h.get? C = some (excClassObj nm q C N bs bm true sn sub ab col dd k0 k1 k2 k3 k5 newId)) (hn : h.Ns N mN) (hna : mN name = none)
    (hB : typeLookup (.type B) name = pure none) (hx : h.get? x = some o) (hc : o.cls = .ref C) (hdict : o.dict = some dx) (hfld : ∃ vs, o.data = .fields vs) (hdx : h.get? dx = some od) (hod : IsNs1 od mA) (hv : mA name = some v)
    (hq : Q (.done (.ret v)) ⟨h, g, d, t, os⟩) :
    wpAny (model prog w) A (Builtin.«object.__getattribute__» ⟨[.ref x, .str name tk], []⟩) Q E ⟨h, g, d, t, os⟩ := by
  have hns := hod.at hdx
  unfold Builtin.«object.__getattribute__»
  repeat (first | (with_reducible refine wpAny_loadPart_at hx ?_; rw [hc]) | with_reducible refine wpAny_loadPart_at hC ?_ | (with_reducible refine wpAny_typeLookup_exc hC hn FB.mro hB ?_; rw [hna]) | wp_step)
  obtain ⟨vs, hvs⟩ := hfld
  rw [hvs]
  dsimp only
  unfold instanceDict
  repeat (first | (with_reducible refine wpAny_loadPart_at hx ?_; rw [hc]) | with_reducible refine wpAny_loadPart_at hC ?_ | wp_step)
  rw [hdict]
  unfold inDict
  repeat (first | (with_reducible refine wpAny_nsGet hns.ns ?_; rw [hv]) | wp_step)
  exact hq
theorem exc_get {expr : Bool} {Q : Value → Shared → Prop} (FB : ExcAttrBase B bm)
    (hC : h.get? C = some (excClassObj nm q C N bs bm true sn sub ab col dd k0 k1 k2 k3 k5 newId)) (hn : h.Ns N mN) (h1 : mN "__getattribute__" = none) (h2 : mN "__getattr__" = none) (hna : mN name = none)
    (hB : typeLookup (.type B) name = pure none) (hx : h.get? x = some o) (hc : o.cls = .ref C) (hdict : o.dict = some dx) (hfld : ∃ vs, o.data = .fields vs) (hdx : h.get? dx = some od) (hod : IsNs1 od mA) (hv : mA name = some v)
    (hh : handedOut v = pure v) (hq : Q v ⟨h, g, d, t + 1, os⟩) :
    wpAny (model prog w) A (getAttr (.ref x) name expr) Q E ⟨h, g, d, t, os⟩ := by
  have f3 := FB.ga.bind (.ref x)
  have hx0 : (expr && onTheHeap (Value.builtin "BaseException.__getattribute__")) = false := by cases expr <;> rfl
  have hx2 : (Value.builtin "BaseException.__getattribute__" == Value.builtin "object.__getattribute__") = false := by decide +kernel
  have hx1 : (onTheHeap (Value.ref C) && Value.builtin "BaseException.__getattribute__" == Value.builtin "object.__getattribute__") = false := by rw [hx2]; rfl
  unfold getAttr getAttrBy
  repeat (any_goals (first | assumption | (with_reducible refine wpAny_loadPart_at hx ?_; rw [hc]) | (with_reducible refine wpAny_typeLookup_exc hC hn FB.mro FB.ga.lookup ?_; rw [h1]) | (with_reducible refine wpAny_typeLookup_exc hC hn FB.mro FB.noGetattr ?_; rw [h2]) | wp_step))
  refine codeAny_call_builtin FB.ga.plain PySem.F.entry_bexc_ga (wpAny_check_ga_own FB hC .base hx hc (exc_get_entry FB hC hn hna hB hx hc hdict hfld hdx hod hv ?_))
  show wpAny _ _ (handedOut v) _ _ _
  rw [hh]
  exact wpAny_pure hq
end
theorem es48_get (P : Params) : nsFind (es48 P) "__getattribute__" = none := by kernel_rfl
theorem es48_get2 (P : Params) : nsFind (es48 P) "__getattr__" = none := by kernel_rfl
theorem es48_doc (P : Params) : nsFind (es48 P) "doc" = none := by kernel_rfl
theorem es48_pos (P : Params) : nsFind (es48 P) "pos" = none := by kernel_rfl
theorem es48_end (P : Params) : nsFind (es48 P) "end" = none := by kernel_rfl
theorem lk_doc : typeLookup (.type "ValueError") "doc" = pure none := by rw [typeLookup_type, builtinLookup_eq_fast]; kernel_rfl
theorem lk_pos : typeLookup (.type "ValueError") "pos" = pure none := by rw [typeLookup_type, builtinLookup_eq_fast]; kernel_rfl
theorem lk_end : typeLookup (.type "ValueError") "end" = pure none := by rw [typeLookup_type, builtinLookup_eq_fast]; kernel_rfl
section
variable {prog : Program} {w : World} {A : Around} {E : Value → Shared → Prop} {s : Shared} {expr : Bool} {Q : Value → Shared → Prop} {x dx : Addr} {o od : Obj} {mx y : Str} {k : Int}
/-- a caught own exception: its object and its dict in the heap -/
structure Got9 (h : Heap) (x : Addr) (mx y : Str) (k : Int) : Prop where
  got : ∃ o dx od vs, h.get? x = some o ∧ o.cls = .ref 49 ∧ o.dict = some dx ∧ o.data = .fields vs ∧ h.get? dx = some od ∧ ExcFields od mx y k
theorem get9 {name : Str} {v : Value} {mA : Str → Option Value} (X : (hd.heap_39 w.params).In s.heap) (hna : nsFind (es48 w.params) name = none) (hB : typeLookup (.type "ValueError") name = pure none)
    (hx : s.heap.get? x = some o) (hc : o.cls = .ref 49) (hdict : o.dict = some dx) (hfld : ∃ vs, o.data = .fields vs) (hdx : s.heap.get? dx = some od) (hod : IsNs1 od mA) (hv : mA name = some v)
    (hh : handedOut v = pure v) (hq : Q v { s with toks := s.toks + 1 }) : wpAny (model prog w) A (getAttr (.ref x) name expr) Q E s := by
  have hC := X _ _ (cls49 w.params)
  have hn := ns48_ok X
  obtain ⟨h, gg, dr, t, os⟩ := s
  exact exc_get PySem.F.attrBase_ValueError hC hn (es48_get _) (es48_get2 _) hna hB hx hc hdict hfld hdx hod hv hh hq
theorem get_doc (X : (hd.heap_39 w.params).In s.heap) (G : Got9 s.heap x mx y k) (hq : ∀ t, Q (.str y t) { s with toks := s.toks + 1 }) : wpAny (model prog w) A (getAttr (.ref x) (Str.ofString "doc") expr) Q E s := by
  obtain ⟨o, dx, od, vs, a1, a2, a3, a4, a5, mA, t0, t, tk, b0, b1, b2, b3, b4⟩ := G.got
  exact get9 X (es48_doc _) lk_doc a1 a2 a3 ⟨vs, a4⟩ a5 b0 b2 rfl (hq t)
theorem get_msg (X : (hd.heap_39 w.params).In s.heap) (G : Got9 s.heap x mx y k) (hq : ∀ t, Q (.str mx t) { s with toks := s.toks + 1 }) : wpAny (model prog w) A (getAttr (.ref x) (Str.ofString "msg") expr) Q E s := by
  obtain ⟨o, dx, od, vs, a1, a2, a3, a4, a5, mA, t0, t, tk, b0, b1, b2, b3, b4⟩ := G.got
  exact get9 X (es48_msg _) lk_msg a1 a2 a3 ⟨vs, a4⟩ a5 b0 b1 rfl (hq t0)
theorem get_pos (X : (hd.heap_39 w.params).In s.heap) (G : Got9 s.heap x mx y k) (hq : ∀ t, Q (.int k t) { s with toks := s.toks + 1 }) : wpAny (model prog w) A (getAttr (.ref x) (Str.ofString "pos") expr) Q E s := by
  obtain ⟨o, dx, od, vs, a1, a2, a3, a4, a5, mA, t0, t, tk, b0, b1, b2, b3, b4⟩ := G.got
  exact get9 X (es48_pos _) lk_pos a1 a2 a3 ⟨vs, a4⟩ a5 b0 b3 rfl (hq tk)
theorem get_end (X : (hd.heap_39 w.params).In s.heap) (G : Got9 s.heap x mx y k) (hq : Q .none { s with toks := s.toks + 1 }) : wpAny (model prog w) A (getAttr (.ref x) (Str.ofString "end") expr) Q E s := by
  obtain ⟨o, dx, od, vs, a1, a2, a3, a4, a5, mA, t0, t, tk, b0, b1, b2, b3, b4⟩ := G.got
  exact get9 X (es48_end _) lk_end a1 a2 a3 ⟨vs, a4⟩ a5 b0 b4 rfl hq
theorem Got9.keeps {h h' : Heap} (G : Got9 h x mx y k) (kp : Keeps h h') : Got9 h' x mx y k := by
  obtain ⟨o, dx, od, vs, a1, a2, a3, a4, a5, a6⟩ := G.got
  exact ⟨o, dx, od, vs, kp _ _ a1, a2, a3, a4, kp _ _ a5, a6⟩
end
end Mine
end

section
open PySem PySem.W PyProof.Rows PySem.Calls PySem.Builtin
set_option Elab.async false
set_option maxRecDepth 100000
set_option maxHeartbeats 4000000
namespace Mine
structure KeepsF (base : Heap) (outer : List Env) (h h' : Heap) : Prop where
  keep : ∀ b o, h.get? b = some o → b ∉ outer.filterMap (·.frame) → h'.get? b = some o
  slots : ∀ b o, h.get? b = some o → ∃ sl, h'.get? b = some { o with slots := sl }
  stays : base.StaysIn h'
  frames : h'.FunFrames base outer
def ObjOk (oe od : Obj) (d : Addr) (mx y : Str) (k : Int) : Prop := ∃ vs, oe.cls = .ref 49 ∧ oe.dict = some d ∧ oe.data = .fields vs ∧ ExcFields od mx y k
abbrev frA (outer : List Env) : List Addr := outer.filterMap (·.frame)
section
variable {w : World} {mean : ExcName → Option Value} {mg mb : Str → Option Value} {base g h h2 : Heap} {outer : List Env} {env : Env} {L e d : Addr} {m : Str → Option Value} {mx x : Str} {k : Int} {fl : Value}
theorem keepsF_of (C : Cx w mean mg mb base outer g) (kp : Keeps g h) : KeepsF base outer g h :=
  ⟨fun b o q _ => kp b o q, fun b o q => ⟨o.slots, kp b o q⟩, (C.keeps kp).stays, (C.keeps kp).frames⟩
theorem caught_fr (C : Cx w mean mg mb base outer g) (F : Fr g L h m) (hf : env.frame = some L) (Y : Fly base h (env :: outer) e d mx x k fl h2) :
    ∃ oe od, ObjOk oe od d mx x k ∧ Fr (hideAll g (frA outer)) L h2 m ∧ News (hideAll g (frA outer)) L h2 ((e, oe) :: (d, od) :: ownOf (hideAll g (frA outer)) (frA outer) h2) ∧
      (hd.heap_39 w.params).In (hideAll g (frA outer)) ∧
      Top hd.view_39 (looseW hd.view_39 [Str.ofString "errmsg", Str.ofString "JSONDecodeError", Str.ofString "BACKSLASH", Str.ofString "py_scanstring"]) mean mg mb (hideAll g (frA outer)) := by
  obtain ⟨od, hod, hF⟩ := Y.dict
  obtain ⟨oe, vs, hoe, b1, b2, b3, b4⟩ := Y.exc
  have hg : ∀ b o, (hideAll g (frA outer)).get? b = some o → g.get? b = some o ∧ b ∉ frA outer := fun b o q => ⟨of_hideAll _ q, fun hm => by rw [hideAll_none _ hm] at q; cases q⟩
  have hLg : g.get? L = none := by
    cases q : g.get? L with
    | none => rfl
    | some o => exact absurd (Nat.lt_of_lt_of_le (Heap.lt_size q) F.above) (Nat.lt_irrefl _)
  have hLf : L ∉ frA outer := fun hm => by
    obtain ⟨_, o, ho, _⟩ := C.frames.mem hm
    rw [hLg] at ho; cases ho
  have nn : ∀ b, h.get? b = none → (hideAll g (frA outer)).get? b = none := fun b q => by
    cases z : (hideAll g (frA outer)).get? b with
    | none => rfl
    | some o => have := F.keep b o (hg b o z).1; rw [q] at this; cases this
  have hLh : ∀ b, h.get? b = none → b ≠ L := fun b q z => by
    obtain ⟨oL, _, _, hL, _⟩ := F.ns
    rw [z, hL] at q; cases q
  have st : base.StaysIn (hideAll g (frA outer)) := fun b o q => hideAll_get _ (C.stays b o q) fun hm => by
    rw [(C.frames.mem hm).1] at q; cases q
  have hfr : (env :: outer).filterMap (·.frame) = L :: frA outer := by
    rw [List.filterMap_cons, hf]
  refine ⟨oe, od, ⟨vs, b1, b2, b3, hF⟩, ⟨?_, fun b o q => ?_, ?_⟩, fun p hp => ?_, C.X.keeps st, C.T.keeps st⟩
  · obtain ⟨oL, es, ep, hL, hd, r⟩ := F.ns
    obtain ⟨sl, hs⟩ := Y.slots _ _ hL
    exact ⟨_, es, ep, hs, hd, r⟩
  · obtain ⟨q1, q2⟩ := hg b o q
    refine Y.keep b o (F.keep b o q1) ?_
    rw [hfr]
    intro hm
    rcases List.mem_cons.mp hm with rfl | hm
    · rw [hLg] at q1; cases q1
    · exact q2 hm
  · rw [hideAll_size]; exact F.above
  · rcases List.mem_cons.mp hp with rfl | hp
    · exact ⟨hoe, hLh _ Y.newE, nn _ Y.newE⟩
    · rcases List.mem_cons.mp hp with rfl | hp
      · exact ⟨hod, hLh _ Y.newD, nn _ Y.newD⟩
      · exact news_ownOf hLf p hp
theorem keepsF_fin {news : List (Addr × Obj)} {h3 : Heap} {m' : Str → Option Value} (C : Cx w mean mg mb base outer g) (F : Fr g L h m) (Y : Fly base h (env :: outer) e d mx x k fl h2) (F3 : Fr (hideAll g (frA outer)) L h3 m') (N3 : News (hideAll g (frA outer)) L h3 news)
    (hsub : ∀ p ∈ ownOf (hideAll g (frA outer)) (frA outer) h2, p ∈ news) : KeepsF base outer g h3 := by
  have kk : ∀ b o, g.get? b = some o → b ∉ frA outer → h3.get? b = some o := fun b o q hb => F3.keep b o (hideAll_get _ q hb)
  have sl : ∀ b o, g.get? b = some o → ∃ sl, h3.get? b = some { o with slots := sl } := fun b o q => by
    by_cases hb : b ∈ frA outer
    · obtain ⟨sl, hs⟩ := Y.slots b o (F.keep b o q)
      exact ⟨sl, (N3 _ (hsub _ (mem_ownOf hb (hideAll_none _ hb) hs))).1⟩
    · exact ⟨o.slots, kk b o q hb⟩
  exact ⟨kk, sl, fun b o q => kk b o (C.stays b o q) fun hm => (by rw [(C.frames.mem hm).1] at q; cases q), C.frames.of_keeps fun b o q _ => by
    obtain ⟨s, hs⟩ := sl b o q
    exact ⟨_, hs, rfl⟩⟩
end
section
variable {prog : Program} {w : World} {A : Around} {E : Value → Shared → Prop} {s : Shared} {expr : Bool} {Q : Value → Shared → Prop} {e d L : Addr} {oe od : Obj} {mx y : Str} {k : Int} {g : Heap} {m : Str → Option Value} {news : List (Addr × Obj)}
theorem got9_of (N : News g L s.heap news) (h1 : (e, oe) ∈ news) (h2 : (d, od) ∈ news) (G : ObjOk oe od d mx y k) : Got9 s.heap e mx y k := by
  obtain ⟨vs, a1, a2, a3, a4⟩ := G
  exact ⟨oe, d, od, vs, (N _ h1).1, a1, a2, a3, (N _ h2).1, a4⟩
theorem match9 {R : Bool → Shared → Prop} (F : Fr g L s.heap m) (N : News g L s.heap news) (X : (hd.heap_39 w.params).In g) (h1 : (e, oe) ∈ news) (G : ObjOk oe od d mx y k) (hq : R true s) :
    wpAny (model prog w) A (excMatches (.ref e) (.ref 49)) R E s := by
  obtain ⟨vs, a1, a2, a3, a4⟩ := G
  have hC := (X.keeps F.keep) _ _ (cls49 w.params)
  have he := (N _ h1).1
  obtain ⟨h, gg, dr, t, os⟩ := s
  exact wpAny_excMatches_sub_self hC he a1 (by decide) hq
theorem get_doc9 (F : Fr g L s.heap m) (N : News g L s.heap news) (X : (hd.heap_39 w.params).In g) (h1 : (e, oe) ∈ news) (h2 : (d, od) ∈ news) (G : ObjOk oe od d mx y k) (hq : ∀ t, Q (.str y t) { s with toks := s.toks + 1 }) : wpAny (model prog w) A (getAttr (.ref e) (Str.ofString "doc") expr) Q E s :=
  get_doc (X.keeps F.keep) (got9_of N h1 h2 G) hq
theorem get_msg9 (F : Fr g L s.heap m) (N : News g L s.heap news) (X : (hd.heap_39 w.params).In g) (h1 : (e, oe) ∈ news) (h2 : (d, od) ∈ news) (G : ObjOk oe od d mx y k) (hq : ∀ t, Q (.str mx t) { s with toks := s.toks + 1 }) : wpAny (model prog w) A (getAttr (.ref e) (Str.ofString "msg") expr) Q E s :=
  get_msg (X.keeps F.keep) (got9_of N h1 h2 G) hq
theorem get_pos9 (F : Fr g L s.heap m) (N : News g L s.heap news) (X : (hd.heap_39 w.params).In g) (h1 : (e, oe) ∈ news) (h2 : (d, od) ∈ news) (G : ObjOk oe od d mx y k) (hq : ∀ t, Q (.int k t) { s with toks := s.toks + 1 }) : wpAny (model prog w) A (getAttr (.ref e) (Str.ofString "pos") expr) Q E s :=
  get_pos (X.keeps F.keep) (got9_of N h1 h2 G) hq
theorem get_end9 (F : Fr g L s.heap m) (N : News g L s.heap news) (X : (hd.heap_39 w.params).In g) (h1 : (e, oe) ∈ news) (h2 : (d, od) ∈ news) (G : ObjOk oe od d mx y k) (hq : Q .none { s with toks := s.toks + 1 }) : wpAny (model prog w) A (getAttr (.ref e) (Str.ofString "end") expr) Q E s :=
  get_end (X.keeps F.keep) (got9_of N h1 h2 G) hq
end
end Mine
namespace Mine
theorem base_none {w : World} {mean : ExcName → Option Value} {mg mb : Str → Option Value} {base g : Heap} {outer : List Env} {D : Addr} (C : Cx w mean mg mb base outer g) (h : (hideAll g (frA outer)).get? D = none) : base.get? D = none := by
  cases q : base.get? D with
  | none => rfl
  | some o =>
    have := hideAll_get (frA outer) (C.stays D o q) fun hm => by rw [(C.frames.mem hm).1] at q; cases q
    rw [h] at this; cases this
theorem base_none' {w : World} {mean : ExcName → Option Value} {mg mb : Str → Option Value} {base g : Heap} {outer : List Env} {D : Addr} (C : Cx w mean mg mb base outer g) (h : g.get? D = none) : base.get? D = none := by
  cases q : base.get? D with
  | none => rfl
  | some o => have := C.stays D o q; rw [h] at this; cases this
/-- the caller's frame and news after a call that may have caught: only slots of frames have changed -/
theorem fr_keepsF {g h h' : Heap} {outer : List Env} {env : Env} {L : Addr} {m : Str → Option Value} (F : Fr g L h m) (K : KeepsF g (env :: outer) h h') : Fr g L h' m := by
  refine ⟨?_, K.stays, F.above⟩
  obtain ⟨oL, es, ep, hL, hd, r⟩ := F.ns
  obtain ⟨sl, hs⟩ := K.slots _ _ hL
  exact ⟨_, es, ep, hs, hd, r⟩
theorem news_keepsF {g h h' : Heap} {outer : List Env} {env : Env} {L D : Addr} {m : Str → Option Value} {news : List (Addr × Obj)} {vs : List Value} (F : Fr g L h m) (N : News g L h news) (K : KeepsF g (env :: outer) h h') (hf : env.frame = some L) (ho : g.FunFrames g outer)
    (hD : g.get? D = none) (hD' : h'.get? D = some (tupOf vs)) : News g L h' ((D, tupOf vs) :: news) := by
  intro p hp
  rcases List.mem_cons.mp hp with rfl | hp
  · refine ⟨hD', fun z => ?_, hD⟩
    obtain ⟨oL, es, ep, hL, hd, _⟩ := (fr_keepsF F K).ns
    subst z
    (try dsimp only at hD')
    rw [hD'] at hL
    cases hL
    cases hd
  · refine ⟨K.keep _ _ (N p hp).1 fun hm => ?_, (N p hp).2⟩
    rw [List.filterMap_cons, hf] at hm
    rcases List.mem_cons.mp hm with h1 | h1
    · exact (N p hp).2.1 h1
    · obtain ⟨e1, o, e2, _⟩ := ho.mem h1
      rw [e2] at e1; cases e1
end Mine
end

section
open PySem PySem.W PyProof.Rows PySem.Calls PySem.StrLaws
set_option Elab.async false
set_option maxRecDepth 100000
set_option maxHeartbeats 4000000
namespace Mine
local macro_rules | `(tactic| k_room) => `(tactic| exact Nat.le_of_ble_eq_true rfl)

local macro_rules | `(tactic| walk_at "exec Try") => `(tactic| refine Held.out ?_)
local macro_rules | `(tactic| walk_at "noteFrame ref") => `(tactic| refine Held.out ?_)
local macro_rules | `(tactic| walk_at "call ref") => `(tactic| (
  (with_reducible show wpAny _ _ (call (Value.ref 75) _ _) _ _ _)
  focus (
    k_dflt (refine' py_call (by assumption) (by k_asm) (by k_asm) rfl rfl (by assumption) (by assumption) (by assumption) (by assumption) (by decide) ?_ ?_)
    (intro $(Lean.mkIdent `acc) $(Lean.mkIdent `e) $(Lean.mkIdent `lone) Y h' tk' D t1 t2 F' N' ne $(Lean.mkIdent `hs1) $(Lean.mkIdent `hs2); (try dsimp only))
    rotate_left
    (intro $(Lean.mkIdent `mx) $(Lean.mkIdent `p) h' tk' e d $(Lean.mkIdent `hs1) $(Lean.mkIdent `Y); (try dsimp only))
    rotate_right)))

local macro_rules | `(tactic| walk_at "getAttr ref") => `(tactic| ((with_reducible show wpAny _ _ (getAttr (Value.ref _) (Str.ofString "doc") _) _ _ _); k_dflt (refine' get_doc9 (by k_asm) (by k_asm) (by assumption) (by first | exact List.mem_cons_self .. | exact List.mem_cons_of_mem _ (List.mem_cons_self ..) | exact List.mem_cons_of_mem _ (List.mem_cons_of_mem _ (List.mem_cons_self ..)) | exact List.mem_cons_of_mem _ (List.mem_cons_of_mem _ (List.mem_cons_of_mem _ (List.mem_cons_self ..)))) (by first | exact List.mem_cons_self .. | exact List.mem_cons_of_mem _ (List.mem_cons_self ..) | exact List.mem_cons_of_mem _ (List.mem_cons_of_mem _ (List.mem_cons_self ..)) | exact List.mem_cons_of_mem _ (List.mem_cons_of_mem _ (List.mem_cons_of_mem _ (List.mem_cons_self ..)))) (by assumption) ?_); intro td))
local macro_rules | `(tactic| walk_at "getAttr ref") => `(tactic| ((with_reducible show wpAny _ _ (getAttr (Value.ref _) (Str.ofString "msg") _) _ _ _); k_dflt (refine' get_msg9 (by k_asm) (by k_asm) (by assumption) (by first | exact List.mem_cons_self .. | exact List.mem_cons_of_mem _ (List.mem_cons_self ..) | exact List.mem_cons_of_mem _ (List.mem_cons_of_mem _ (List.mem_cons_self ..)) | exact List.mem_cons_of_mem _ (List.mem_cons_of_mem _ (List.mem_cons_of_mem _ (List.mem_cons_self ..)))) (by first | exact List.mem_cons_self .. | exact List.mem_cons_of_mem _ (List.mem_cons_self ..) | exact List.mem_cons_of_mem _ (List.mem_cons_of_mem _ (List.mem_cons_self ..)) | exact List.mem_cons_of_mem _ (List.mem_cons_of_mem _ (List.mem_cons_of_mem _ (List.mem_cons_self ..)))) (by assumption) ?_); intro td))
local macro_rules | `(tactic| walk_at "getAttr ref") => `(tactic| ((with_reducible show wpAny _ _ (getAttr (Value.ref _) (Str.ofString "pos") _) _ _ _); k_dflt (refine' get_pos9 (by k_asm) (by k_asm) (by assumption) (by first | exact List.mem_cons_self .. | exact List.mem_cons_of_mem _ (List.mem_cons_self ..) | exact List.mem_cons_of_mem _ (List.mem_cons_of_mem _ (List.mem_cons_self ..)) | exact List.mem_cons_of_mem _ (List.mem_cons_of_mem _ (List.mem_cons_of_mem _ (List.mem_cons_self ..)))) (by first | exact List.mem_cons_self .. | exact List.mem_cons_of_mem _ (List.mem_cons_self ..) | exact List.mem_cons_of_mem _ (List.mem_cons_of_mem _ (List.mem_cons_self ..)) | exact List.mem_cons_of_mem _ (List.mem_cons_of_mem _ (List.mem_cons_of_mem _ (List.mem_cons_self ..)))) (by assumption) ?_); intro td))
local macro_rules | `(tactic| walk_at "getAttr ref") => `(tactic| ((with_reducible show wpAny _ _ (getAttr (Value.ref _) (Str.ofString "end") _) _ _ _); k_dflt (refine' get_end9 (by k_asm) (by k_asm) (by assumption) (by first | exact List.mem_cons_self .. | exact List.mem_cons_of_mem _ (List.mem_cons_self ..) | exact List.mem_cons_of_mem _ (List.mem_cons_of_mem _ (List.mem_cons_self ..)) | exact List.mem_cons_of_mem _ (List.mem_cons_of_mem _ (List.mem_cons_of_mem _ (List.mem_cons_self ..)))) (by first | exact List.mem_cons_self .. | exact List.mem_cons_of_mem _ (List.mem_cons_self ..) | exact List.mem_cons_of_mem _ (List.mem_cons_of_mem _ (List.mem_cons_self ..)) | exact List.mem_cons_of_mem _ (List.mem_cons_of_mem _ (List.mem_cons_of_mem _ (List.mem_cons_self ..)))) (by assumption) ?_)))

theorem law_scanned_spec {w : World} {gd : Option (List Code)} {base : Heap} {outer : List Env} {s : Shared} {mean : ExcName → Option Value} {mg mb : Str → Option Value} {R : Result → Shared → Prop}
    {x : Str} {t tk : Tok} {a : Nat} {strict : Bool} (C : Cx w mean mg mb base outer s.heap)
    (hx : x.length ≤ 1048576) (hk1 : 1 ≤ a) (hk2 : a ≤ x.length) (hc : ∀ c ∈ x.cps.toList, c < 1114112)
    (hR1 : ∀ mx p h' tk' D t1 t2 t3, KeepsF base outer s.heap h' → scan x strict a a [] false = .no mx p → base.get? D = none → h'.get? D = some (tupOf [.str (Str.ofString "no") t1, .str mx t2, .int p t3]) → R (.ok (.ret (.ref D))) { s with heap := h', toks := tk' })
    (hR2 : ∀ acc e lone Y h' tk' D t1 t2 t3, KeepsF base outer s.heap h' → scan x strict a a [] false = .is acc e lone → Y.cps.toList = acc → base.get? D = none → h'.get? D = some (tupOf [.str (Str.ofString "is") t1, .str Y t2, .int ((e : Nat) : Int) t3]) → R (.ok (.ret (.ref D))) { s with heap := h', toks := tk' }) :
    codeAny (model Challenge.rw_ev0023_01.row.prog w) (Ar 680 680 gd outer) (.call (.ref 96) ⟨[.str x t, .int (a : Int) tk, .bool strict], []⟩) R s := by
  w_top off
  have B := C.below 680 gd
  have X := C.XH
  have T := C.TH
  revert X
  k_fill
  intro X
  refine' enter_def (binds := [("s", .str x t), ("at", .int (a : Int) tk), ("strict", .bool strict)]) B X T ?k1 ?k2 ?k3 ?k4 ?k5 ?_ ?k6 ?k7 ?k8 ?k9
  case k1 => k_is
  case k2 => k_is
  case k3 => exact Nat.le_of_ble_eq_true rfl
  case k4 => first | exact BindsTo.of_eq rfl | exact binds_K X rfl (by k_is) rfl rfl rfl
  case k5 => exact locs rfl
  case k6 => decide
  case k7 => exact rfl
  case k8 => exact rfl
  case k9 => exact rfl
  clear B X T
  intro g L' h₁ hg F N B' X' T' hL
  try dsimp only
  k_fold
  rw [← hg] at C
  have hg0 : s.heap = g := hg.symm
  k_steps
  (rename Fr _ _ _ _ => F)
  (rename News _ _ _ _ => N)
  refine wpAny_Try_except ?_
  k_fold
  k_steps
  · (rename Fr _ _ _ _ => F9); (rename News _ _ _ _ => N9)
    subst hg
    exact hR2 _ _ _ _ _ _ _ _ _ _ (keepsF_of C F9.keep) hs1 hs2 (base_none' C (N9 _ (List.mem_cons_self ..)).2.2) (N9 _ (List.mem_cons_self ..)).1
  · refine noteFrame_fly rfl rfl Y fun h1 Y1 => ?_
    refine setFlight_fly (s := ⟨h1, _, _, _, _⟩) Y1 fun h2 Y2 => ?_
    (try dsimp only at Y2)
    obtain ⟨oe, od, G2, F2, N2, X2, T2⟩ := caught_fr C F rfl Y2
    have F0 := F
    clear F N
    (try k_fold)
    refine wpAny_handleBy_cons (codeAny_handlers_test ?_) (by intro q; cases q)
    k_steps
    refine match9 F2 N2 X2 (List.mem_cons_self ..) G2 ?_
    show codeAny _ _ (.handlers _ _ _) _ _
    refine codeAny_handlers_suite_as ?_
    refine setFlight_fly (s := ⟨h2, _, _, _, _⟩) Y2 fun h3 Y3 => ?_
    (try dsimp only at Y3)
    obtain ⟨oe3, od3, G3, F3, N3, X3, T3⟩ := caught_fr C F0 rfl Y3
    clear F2 N2 X2 T2 G2 Y1 Y2
    (try k_fold)
    k_steps
    (rename Fr _ _ _ _ => F8); (rename News _ _ _ _ => N8)
    refine get_doc9 F8 N8 X3 (by first | exact List.mem_cons_self .. | exact List.mem_cons_of_mem _ (List.mem_cons_self ..) | exact List.mem_cons_of_mem _ (List.mem_cons_of_mem _ (List.mem_cons_self ..)) | exact List.mem_cons_of_mem _ (List.mem_cons_of_mem _ (List.mem_cons_of_mem _ (List.mem_cons_self ..)))) (by first | exact List.mem_cons_self .. | exact List.mem_cons_of_mem _ (List.mem_cons_self ..) | exact List.mem_cons_of_mem _ (List.mem_cons_of_mem _ (List.mem_cons_self ..)) | exact List.mem_cons_of_mem _ (List.mem_cons_of_mem _ (List.mem_cons_of_mem _ (List.mem_cons_self ..)))) G3 ?_
    intro td
    k_steps
    · refine get_end9 F8 N8 X3 (by first | exact List.mem_cons_self .. | exact List.mem_cons_of_mem _ (List.mem_cons_self ..) | exact List.mem_cons_of_mem _ (List.mem_cons_of_mem _ (List.mem_cons_self ..)) | exact List.mem_cons_of_mem _ (List.mem_cons_of_mem _ (List.mem_cons_of_mem _ (List.mem_cons_self ..)))) (by first | exact List.mem_cons_self .. | exact List.mem_cons_of_mem _ (List.mem_cons_self ..) | exact List.mem_cons_of_mem _ (List.mem_cons_of_mem _ (List.mem_cons_self ..)) | exact List.mem_cons_of_mem _ (List.mem_cons_of_mem _ (List.mem_cons_of_mem _ (List.mem_cons_self ..)))) G3 ?_
      k_steps
      refine get_msg9 F8 N8 X3 (by first | exact List.mem_cons_self .. | exact List.mem_cons_of_mem _ (List.mem_cons_self ..) | exact List.mem_cons_of_mem _ (List.mem_cons_of_mem _ (List.mem_cons_self ..)) | exact List.mem_cons_of_mem _ (List.mem_cons_of_mem _ (List.mem_cons_of_mem _ (List.mem_cons_self ..)))) (by first | exact List.mem_cons_self .. | exact List.mem_cons_of_mem _ (List.mem_cons_self ..) | exact List.mem_cons_of_mem _ (List.mem_cons_of_mem _ (List.mem_cons_self ..)) | exact List.mem_cons_of_mem _ (List.mem_cons_of_mem _ (List.mem_cons_of_mem _ (List.mem_cons_self ..)))) G3 ?_
      intro tm
      k_steps
      refine get_pos9 F8 N8 X3 (by first | exact List.mem_cons_self .. | exact List.mem_cons_of_mem _ (List.mem_cons_self ..) | exact List.mem_cons_of_mem _ (List.mem_cons_of_mem _ (List.mem_cons_self ..)) | exact List.mem_cons_of_mem _ (List.mem_cons_of_mem _ (List.mem_cons_of_mem _ (List.mem_cons_self ..)))) (by first | exact List.mem_cons_self .. | exact List.mem_cons_of_mem _ (List.mem_cons_self ..) | exact List.mem_cons_of_mem _ (List.mem_cons_of_mem _ (List.mem_cons_self ..)) | exact List.mem_cons_of_mem _ (List.mem_cons_of_mem _ (List.mem_cons_of_mem _ (List.mem_cons_self ..)))) G3 ?_
      intro tp
      k_steps
      (rename Fr _ _ _ _ => F9); (rename News _ _ _ _ => N9)
      subst hg
      exact hR1 _ _ _ _ _ _ _ _ (keepsF_fin C F0 Y3 F9 N9 (fun p hp => List.mem_cons_of_mem _ (List.mem_cons_of_mem _ (List.mem_cons_of_mem _ hp)))) hs1 (base_none C (N9 _ (List.mem_cons_self ..)).2.2) (N9 _ (List.mem_cons_self ..)).1
    · exact absurd (by assumption : (x == x) = false) (by simp)

/-- a call of the guarded scan from the law's own frame: the frames below it lie in the ground -/
theorem law_scanned_call {w : World} {gd : Option (List Code)} {outer : List Env} {s : Shared} {mean : ExcName → Option Value} {mg mb : Str → Option Value} {g : Heap} {L : Addr} {m : Str → Option Value} {env : Env} {news : List (Addr × Obj)} {n : Nat} {E Q : Value → Shared → Prop}
    {x : Str} {t tk : Tok} {a : Nat} {strict : Bool} (C : Cx w mean mg mb g outer g) (F : Fr g L s.heap m) (N : News g L s.heap news) (hf : env.frame = some L) (hke : env.scope.kind = .function)
    (hx : x.length ≤ 1048576) (hk1 : 1 ≤ a) (hk2 : a ≤ x.length) (hc : ∀ c ∈ x.cps.toList, c < 1114112) (hn : n ≤ 670)
    (hR1 : ∀ mx p h' tk' D t1 t2 t3, Fr g L h' m → News g L h' ((D, tupOf [.str (Str.ofString "no") t1, .str mx t2, .int p t3]) :: news) → scan x strict a a [] false = .no mx p → Q (.ref D) { s with heap := h', toks := tk' })
    (hR2 : ∀ acc e lone Y h' tk' D t1 t2 t3, Fr g L h' m → News g L h' ((D, tupOf [.str (Str.ofString "is") t1, .str Y t2, .int ((e : Nat) : Int) t3]) :: news) → scan x strict a a [] false = .is acc e lone → Y.cps.toList = acc → Q (.ref D) { s with heap := h', toks := tk' }) :
    wpAny (model Challenge.rw_ev0023_01.row.prog w) ((Ar n n gd outer).deeper env) (call (.ref 96) [.str x t, .int (a : Int) tk, .bool strict] []) Q E s := by
  refine wpAny_call (codeAny_ctx (A' := Ar 680 680 gd (env :: outer)) (law_scanned_spec (C.deeper F hf hke) hx hk1 hk2 hc (fun mx p h' tk' D t1 t2 t3 k1 q1 q2 q3 => ?_) (fun acc e lone Y h' tk' D t1 t2 t3 k1 q1 q2 q3 q4 => ?_)) rfl (by show n + 1 ≤ 680; omega) rfl rfl (by show n + 3 ≤ 680; omega))
  · exact hR1 mx p h' tk' D t1 t2 t3 (fr_keepsF F k1) (news_keepsF F N k1 hf C.frames q2 q3) q1
  · exact hR2 acc e lone Y h' tk' D t1 t2 t3 (fr_keepsF F k1) (news_keepsF F N k1 hf C.frames q3 q4) q1 q2
end Mine
end

section
open PySem PySem.W PyProof.Rows PySem.Calls PySem.StrLaws
set_option Elab.async false
set_option maxRecDepth 100000
set_option maxHeartbeats 4000000
namespace Mine
local macro_rules | `(tactic| k_room) => `(tactic| exact Nat.le_of_ble_eq_true rfl)

def okP (y : Str) : Bool := decide (y.length ≤ 12) && y.cps.toList.all (fun c => decide (c < 1114112))
theorem getD_ok : ∀ {l : List Str} {i : Nat}, l.all okP = true → okP (l.getD i Str.empty) = true
  | [], _, _ => by rw [List.getD_nil]; decide +kernel
  | y :: r, 0, h => by
    rw [List.getD_cons_zero]
    exact (Bool.and_eq_true_iff.mp (List.all_cons ▸ h)).1
  | y :: r, i + 1, h => by
    rw [List.getD_cons_succ]
    exact getD_ok (Bool.and_eq_true_iff.mp (List.all_cons ▸ h)).2
theorem okP_len {y : Str} (h : okP y = true) : y.length ≤ 12 := by
  unfold okP at h
  simpa using (Bool.and_eq_true_iff.mp h).1
theorem okP_cps {y : Str} (h : okP y = true) : ∀ c ∈ y.cps.toList, c < 1114112 := by
  unfold okP at h
  have := (Bool.and_eq_true_iff.mp h).2
  intro c hc
  simpa using List.all_eq_true.mp this c hc

theorem law_piece_spec {w : World} {gd : Option (List Code)} {base : Heap} {outer : List Env} {s : Shared} {mean : ExcName → Option Value} {mg mb : Str → Option Value} {R : Result → Shared → Prop}
    {tk : Tok} {k : Int} (C : Cx w mean mg mb base outer s.heap)
    (hk1 : 0 ≤ k) (hk2 : k < 35)
    (hR1 : ∀ Y h' tk' t1, Keeps s.heap h' → Y.length ≤ 12 → (∀ c ∈ Y.cps.toList, c < 1114112) → R (.ok (.ret (.str Y t1))) { s with heap := h', toks := tk' }) :
    codeAny (model Challenge.rw_ev0023_01.row.prog w) (Ar 660 660 gd outer) (.call (.ref 103) ⟨[.int k tk], []⟩) R s := by
  w_top off
  have B := C.below 660 gd
  have X := C.XH
  have T := C.TH
  revert X
  k_fill
  intro X
  refine' enter_def (binds := [("k", .int k tk)]) B X T ?k1 ?k2 ?k3 ?k4 ?k5 ?_ ?k6 ?k7 ?k8 ?k9
  case k1 => k_is
  case k2 => k_is
  case k3 => exact Nat.le_of_ble_eq_true rfl
  case k4 => first | exact BindsTo.of_eq rfl | exact binds_K X rfl (by k_is) rfl rfl rfl
  case k5 => exact locs rfl
  case k6 => decide
  case k7 => exact rfl
  case k8 => exact rfl
  case k9 => exact rfl
  clear B X T
  intro g L' h₁ hg F N B' X' T' hL
  try dsimp only
  k_fold
  rw [← hg] at C
  have hg0 : s.heap = g := hg.symm
  k_steps
  (rename Fr _ _ _ _ => F9)
  subst hg
  refine hR1 _ _ _ _ F9.keep (okP_len (getD_ok ?_)) (okP_cps (getD_ok ?_)) <;> decide +kernel

/-- a call of the menu from a frame -/
theorem law_piece_call {w : World} {gd : Option (List Code)} {base : Heap} {outer : List Env} {s : Shared} {mean : ExcName → Option Value} {mg mb : Str → Option Value} {g : Heap} {L : Addr} {m : Str → Option Value} {env : Env} {news : List (Addr × Obj)} {n : Nat} {E Q : Value → Shared → Prop}
    {tk : Tok} {k : Int} (C : Cx w mean mg mb base outer g) (F : Fr g L s.heap m) (N : News g L s.heap news) (hf : env.frame = some L) (hke : env.scope.kind = .function)
    (hk1 : 0 ≤ k) (hk2 : k < 35) (hn : n ≤ 650)
    (hR1 : ∀ Y h' tk' t1, Fr g L h' m → News g L h' news → Y.length ≤ 12 → (∀ c ∈ Y.cps.toList, c < 1114112) → Keeps s.heap h' → Q (.str Y t1) { s with heap := h', toks := tk' }) :
    wpAny (model Challenge.rw_ev0023_01.row.prog w) ((Ar n n gd outer).deeper env) (call (.ref 103) [.int k tk] []) Q E s := by
  refine wpAny_call (codeAny_ctx (A' := Ar 660 660 gd (env :: outer)) (law_piece_spec (C.deeper F hf hke) hk1 hk2 (fun Y h' tk' t1 k1 q1 q2 => ?_)) rfl (by show n + 1 ≤ 660; omega) rfl rfl (by show n + 3 ≤ 660; omega))
  exact hR1 Y h' tk' t1 (F.keeps k1) (N.keeps k1) q1 q2 k1
end Mine
end

section
open PySem PySem.W PyProof.Rows PySem.Calls
set_option Elab.async false
set_option maxRecDepth 100000
set_option maxHeartbeats 4000000
namespace Mine
section
variable {prog : Program} {w : World} {A : Around} {h₀ : Heap} {L : Addr} {m : Str → Option Value} {env : Env} {elt : Expr} {x : Str} {scope : Scope} {cl : List (Str × Addr)} {s : Shared} {S : List (Addr × Obj) → Prop} {Fin : List Value → List (Addr × Obj) → Prop} {news : List (Addr × Obj)}
theorem kmy_list {vs : List Value} {ns : List Int} (hi : IntsAre vs ns)
    (turn : ∀ k t I oI C oC D m₂ ys h tk (E' : Value → Shared → Prop), k ∈ ns → LCg.NsObj oC m₂ → m₂ x = some (.int k t) → Fr h₀ L h m → News h₀ L h ((I, oI) :: (C, oC) :: (D, LCg.lst ys) :: news) → LCg.Off3 I C D news → ((@Ne Nat I C) ∧ (@Ne Nat I D) ∧ (@Ne Nat C D)) →
      wpAny (model prog w) A (eval elt (compEnvC scope cl C env)) (LCg.CompEnd h₀ L m { s with heap := h, toks := tk } I oI C oC D (LCg.lst ys) S (fun y news' => news' = news ∧ ∃ Y t, y = .str Y t ∧ okP Y = true)) E' { s with heap := h, toks := tk })
    (fin : ∀ l : List (Str × Tok), l.length = vs.length → (∀ p ∈ l, okP p.1 = true) → Fin (strValues l) news) : LCg.CompRest prog w A h₀ L m env elt x scope cl s S (fun i v => vs.toArray[i]? = some v) Fin vs.toArray.size 0 [] news := by
  have key : ∀ (j i : Nat) (l : List (Str × Tok)), i + j = vs.length → l.length = i → (∀ p ∈ l, okP p.1 = true) → LCg.CompRest prog w A h₀ L m env elt x scope cl s S (fun i v => vs.toArray[i]? = some v) Fin j i (strValues l) news := by
    intro j
    induction j with
    | zero =>
      intro i l hi' hl ho
      exact LCg.CompRest.zero (fin l (by omega) ho)
    | succ j ih =>
      intro i l hi' hl ho
      refine LCg.CompRest.succ ?_
      intro v I oI C oC D m₂ h tk E' hv hC hx F N off ne
      obtain ⟨k, t, hv', hk⟩ := IntsAre.at hi i v (by simpa using hv)
      rw [hv'] at hx
      refine wpAny_mono (turn k t I oI C oC D m₂ (strValues l) h tk E' (List.mem_of_getElem? hk) hC hx F N off ne) (fun y s₂ hq => ?_) fun _ _ e => e
      obtain ⟨h', tk', nw, e, F', N', off', hS, hn, Y, t', hy', hok⟩ := hq
      rw [hn] at N' off' hS
      refine ⟨h', tk', news, e, F', N', off', hS, ?_⟩
      rw [hy']
      have := ih (i + 1) (l ++ [(Y, t')]) (by omega) (by simp [hl]) (fun p hp => by
        rcases List.mem_append.mp hp with hp | hp
        · exact ho p hp
        · rw [List.mem_singleton] at hp; rw [hp]; exact hok)
      have e2 : strValues (l ++ [(Y, t')]) = strValues l ++ [.str Y t'] := by simp [strValues]
      rw [e2] at this
      exact this
  have := key vs.length 0 [] (by omega) rfl (fun _ hp => (List.not_mem_nil hp).elim)
  rw [List.size_toArray]
  exact this
theorem fm_ok {k n : Int} (hn : 0 < n) (h35 : n ≤ 35) : 0 ≤ Int.fmod k n ∧ Int.fmod k n < 35 := by
  rw [Int.fmod_eq_emod_of_nonneg _ (by omega)]
  have h1 := Int.emod_nonneg k (by omega : n ≠ 0)
  have h2 := Int.emod_lt_of_pos k hn
  omega
end
section
variable {prog : Program} {w : World} {A : Around} {E : Value → Shared → Prop} {Q : Flow → Shared → Prop} {s : Shared} {env : Env} {h₀ : Heap}
def ListGot (h₀ : Heap) (L : Addr) (s : Shared) (m : Str → Option Value) (news₀ : List (Addr × Obj)) (G : Value → Prop) (xv : Value) (s₁ : Shared) : Prop :=
  ∃ D h1 tk vs n m' news', xv = .ref D ∧ s₁ = { s with heap := h1, toks := tk } ∧ Fr h₀ L h1 m' ∧ m' = m ∧ News h₀ L h1 news' ∧ (∀ p ∈ news₀, p ∈ news') ∧ (D, listOf vs n) ∈ news' ∧ ∀ v ∈ vs.toList, G v
theorem for_list {σ : Type} {v : Str} {px pos : Pos} {iter : Expr} {body : List Stmt} {m₀ : Str → Option Value} {news₀ : List (Addr × Obj)} (ps : σ → List (Str × Value)) (P : σ → Prop) (G : Value → Prop) (c₀ : σ)
    (uF0 : Fr h₀ env.locals s.heap m₀) (uN0 : News h₀ env.locals s.heap news₀) (hx : env.kindOf v = some .local) (hp : (env.scope.kind == .class || (env.scope.kind == .module && env.locals != env.globals)) = false) (hh : A.handled = none)
    (hk : KS m₀ (ps c₀)) (h0 : P c₀) (hps : ∀ c, (ps c).all (fun p => p.1 != v) = true)
    (hiter : wpAny (model prog w) A (eval iter env) (ListGot h₀ env.locals s m₀ news₀ G) E s)
    (turn : ∀ (i : Nat) (c : σ) (u : Str → Option Value) h tk vi own, P c → G vi → Fr h₀ env.locals h (kstB u ((v, vi) :: ps c)) → News h₀ env.locals h own →
      wpAny (model prog w) A (execs body env) (FPost h₀ env.locals s ps (fun _ => P) Q own i) E { s with heap := h, toks := tk })
    (done : ∀ (c : σ) (u : Str → Option Value) h tk, P c → Fr h₀ env.locals h (kstB u (ps c)) → News h₀ env.locals h news₀ → Q .next { s with heap := h, toks := tk })
    (hs : ∀ y, foldedSetIterable iter env y = pure y := by intro _; rfl) (hE : PassesOwn (model prog w) A env E := by passes_own) :
    wpAny (model prog w) A (exec (.For (.Name v px) iter body [] pos) env) Q E s := by
  refine For_invV h₀ hx hp (wpAny_mono hiter (fun xv s₁ hg => ?_) fun _ _ e => e) hs hE
  obtain ⟨D, h1, tk, vs, nn, m', news', rfl, rfl, F1, rfl, N1, hsub, hD, hG⟩ := hg
  have hls : h1.IsList D vs := News.isList N1 hD
  refine wpAny_pyIter_list (s := { s with heap := h1, toks := tk }) hls ?_
  have hsz : ∀ b o', h1.get? b = some o' → b ≠ h1.objs.size := fun b o' q => Nat.ne_of_lt (Heap.lt_size q)
  have W := Walks.list (prog := prog) (w := w) hh h1.objs.size D (hsz _ _ (N1 _ hD).1) vs
  refine for_my (s := { s with heap := h1.push _, toks := tk }) (Pv := fun i v => vs[i]? = some v) ps (fun _ => P) c₀ W ?_ ?_ ?_ ⟨⟨_, Heap.get?_push_size _ rfl, rfl, rfl⟩, hls.at fun o e => Heap.get?_push_of_some _ e⟩ (F1.push _) (fun p hp => ⟨Heap.get?_push_of_some _ (N1 p hp).1, (N1 p hp).2⟩) hk h0 ?_ hps ?_
  · obtain ⟨oL, _, _, hoL, _⟩ := F1.ns
    have a1 := hsz _ _ hoL
    have a2 := (N1 _ hD).2.1
    simp only [List.mem_cons, List.not_mem_nil, or_false, not_or]
    exact ⟨a1, fun e => a2 e.symm⟩
  · intro b hb
    rw [List.mem_singleton] at hb
    subst hb
    cases q : h₀.get? h1.objs.size with
    | none => rfl
    | some o' => exact absurd rfl (hsz _ _ (F1.keep _ _ q))
  · intro p hp
    simpa using hsz _ _ (N1 _ hp).1
  · intro i c u h tk' vi own hi hpc hv F' N'
    refine turn i c u h tk' vi own hpc (hG vi ?_) F' N'
    exact List.mem_of_getElem? (by simpa using hv)
  · exact fun c u h tk' hpc F' N' => done c u h tk' hpc F' fun p hp => N' p (hsub p hp)
end
structure StopMark (n : Nat) : Prop where
end Mine
namespace Mine
section
variable {prog : Program} {w : World} {A : Around} {E : Value → Shared → Prop} {s : Shared} {g : Heap} {L D1 D2 : Addr} {news : List (Addr × Obj)} {z y : Str} {p : Int} {t1 t2 t3 t4 t5 t6 : Tok} {Q : Value → Shared → Prop}
theorem sh3 (hz : PySem.PyData.strOk z = true) (hy : PySem.PyData.strOk y = true) : PySem.SeqAt.shaped (.tuple [.str z, .str y, .int p]) = true := by
  unfold PySem.SeqAt.shaped
  rw [Bool.and_eq_true_iff]
  refine ⟨?_, rfl⟩
  show (PySem.PyData.strOk z && (PySem.PyData.strOk y && (true && true))) = true
  rw [hz, hy]; rfl
theorem ne_same3 (N : News g L s.heap news) (h2 : (D2, tupOf [.str z t4, .str y t5, .int p t6]) ∈ news) (h1 : (D1, tupOf [.str z t1, .str y t2, .int p t3]) ∈ news) (hz : PySem.PyData.strOk z = true) (hy : PySem.PyData.strOk y = true) (hu : A.units + 64 < cLine) (hq : Q (.bool false) s) :
    wpAny (model prog w) A (compareOp .NotEq (.ref D2) (.ref D1)) Q E s := by
  refine ne_dataH (reads_tuple_at (News.get N h2) rfl rfl (.cons (.str _ _) (.cons (.str _ _) (.cons (.int _ _) .nil)))) (reads_tuple_at (News.get N h1) rfl rfl (.cons (.str _ _) (.cons (.str _ _) (.cons (.int _ _) .nil)))) (sh3 hz hy) (sh3 hz hy) hu ?_
  simp only [PyData.eqv, PyData.eqvAll, beq_self_eq_true, Bool.and_true, Bool.not_true, decide_true]
  exact hq
end
end Mine
end

section
open PySem PySem.W PyProof.Rows PySem.Calls PySem.StrLaws
set_option Elab.async false
set_option maxRecDepth 100000
namespace Mine
def ResOk : Res → Prop
  | .no mx _ => mx.cps.all (· < 0x110000) = true
  | .is acc _ _ => ∀ c ∈ acc, c < 1114112
theorem cpAt_mem {x : Str} {k : Nat} (h : k < x.length) : cpAt x k ∈ x.cps.toList := by
  unfold cpAt
  have h2 : k < x.cps.size := h
  rw [Array.getElem?_eq_getElem h2]
  simp
theorem tbl_lt {c d : Nat} (h : tbl c = some d) : d < 1114112 := by
  unfold tbl at h
  repeat' split at h
  all_goals first | (cases h; decide) | cases h
theorem snoc_ok {acc : List Nat} {d : Nat} (h : ∀ c ∈ acc, c < 1114112) (hd : d < 1114112) : ∀ c ∈ acc ++ [d], c < 1114112 := fun c hc => by
  rcases List.mem_append.mp hc with hc | hc
  · exact h c hc
  · rw [List.mem_singleton] at hc; rw [hc]; exact hd
theorem mu_ok : MU.cps.all (· < 0x110000) = true := by decide +kernel
theorem mx_ok : MX.cps.all (· < 0x110000) = true := by decide +kernel
theorem mh_ok : MH.cps.all (· < 0x110000) = true := by decide +kernel
theorem mc_ok : MC.cps.all (· < 0x110000) = true := by decide +kernel
theorem scan_ok {x : Str} {strict : Bool} {a : Nat} (hx : ∀ c ∈ x.cps.toList, c < 1114112) : ∀ n k acc lone, x.length - k ≤ n → (∀ c ∈ acc, c < 1114112) → ResOk (scan x strict a k acc lone) := by
  intro n
  induction n with
  | zero =>
    intro k acc lone hn _
    rw [scan_end (by omega)]
    exact mu_ok
  | succ n ih =>
    intro k acc lone hn ha
    by_cases hk : k < x.length
    · by_cases h34 : cpAt x k = 34
      · rw [scan_quote hk h34]; exact ha
      · by_cases h92 : cpAt x k = 92
        · by_cases hk1 : k + 1 < x.length
          · by_cases hu : cpAt x (k + 1) = 117
            · cases h4 : hex4 x (k + 2) with
              | none => rw [scan_nohex h92 hk1 hu h4]; exact mh_ok
              | some v =>
                have hv := hex4_lt h4
                by_cases hp : v / 1024 = 54 ∧ pairAt x (k + 6) = true
                · cases h8 : hex4 x (k + 8) with
                  | none => rw [scan_nohex2 h92 hk1 hu h4 hp.1 hp.2 h8]; exact mh_ok
                  | some v2 =>
                    by_cases h55 : v2 / 1024 = 55
                    · rw [scan_two h92 hk1 hu h4 hp.1 hp.2 h8 h55]
                      exact ih _ _ _ (by omega) (snoc_ok ha (by omega))
                    · rw [scan_half h92 hk1 hu h4 hp.1 hp.2 h8 h55]
                      exact ih _ _ _ (by omega) (snoc_ok ha (by omega))
                · rw [scan_one h92 hk1 hu h4 hp]
                  exact ih _ _ _ (by omega) (snoc_ok ha (by omega))
            · cases ht : tbl (cpAt x (k + 1)) with
              | none => rw [scan_noesc h92 hk1 hu ht]; exact mx_ok
              | some c =>
                rw [scan_esc h92 hk1 hu ht]
                exact ih _ _ _ (by omega) (snoc_ok ha (tbl_lt ht))
          · rw [scan_cut h92 (by omega)]; exact mu_ok
        · by_cases hc : cpAt x k < 32 ∧ strict = true
          · obtain ⟨hc1, rfl⟩ := hc
            rw [scan_ctl hk h34 h92 hc1]; exact mc_ok
          · rw [scan_sign hk h34 h92 (fun q => by
              cases strict with
              | false => rfl
              | true => exact absurd ⟨q, rfl⟩ hc)]
            exact ih _ _ _ (by omega) (snoc_ok ha (hx _ (cpAt_mem hk)))
    · rw [scan_end (by omega)]; exact mu_ok
theorem scan_no_ok {x : Str} {strict : Bool} {a k : Nat} {mx : Str} {p : Int} (hx : ∀ c ∈ x.cps.toList, c < 1114112) (h : scan x strict a k [] false = .no mx p) : PySem.PyData.strOk mx = true := by
  have := scan_ok (strict := strict) (a := a) hx x.length k [] false (by omega) (fun _ hc => (List.not_mem_nil hc).elim)
  rw [h] at this
  exact this
theorem scan_is_ok {x : Str} {strict : Bool} {a k : Nat} {acc : List Nat} {e : Nat} {lone : Bool} {Y : Str} (hx : ∀ c ∈ x.cps.toList, c < 1114112) (h : scan x strict a k [] false = .is acc e lone) (hY : Y.cps.toList = acc) : PySem.PyData.strOk Y = true := by
  have := scan_ok (strict := strict) (a := a) hx x.length k [] false (by omega) (fun _ hc => (List.not_mem_nil hc).elim)
  rw [h] at this
  unfold PySem.PyData.strOk
  rw [← Array.all_toList, List.all_eq_true]
  intro c hc
  rw [hY] at hc
  exact decide_eq_true (this c hc)
end Mine
end

section
open PySem PySem.W PyProof.Rows
set_option Elab.async false
set_option maxRecDepth 100000
set_option maxHeartbeats 8000000
namespace Mine
theorem ca_depth {env : Env} : (callerA.deeper env).depth ≤ ((Ar 600 600 (some []) []).deeper env).depth := Nat.le_of_ble_eq_true rfl
theorem ca_units {env : Env} : (callerA.deeper env).units ≤ ((Ar 600 600 (some []) []).deeper env).units := Nat.le_of_ble_eq_true rfl
local macro_rules | `(tactic| walk_at "exec For Name List cons nil") => `(tactic| refine Held.out ?_)
local macro_rules | `(tactic| walk_at "exec Assign") => `(tactic| ((with_reducible rename StopMark 1 => mk1'); (with_reducible show wpAny _ _ (exec (Stmt.Assign [Expr.Name (Str.ofString "head") _] _ _) _) _ _ _); refine Held.out ?_))
local macro_rules | `(tactic| walk_at "exec Assign") => `(tactic| ((with_reducible rename StopMark 3 => mk3'); (with_reducible show wpAny _ _ (exec (Stmt.Assign [Expr.Name (Str.ofString "ahead") _] _ _) _) _ _ _); refine Held.out ?_))
local macro_rules | `(tactic| walk_at "exec Assign") => `(tactic| ((with_reducible rename StopMark 4 => mk4'); (with_reducible show wpAny _ _ (exec (Stmt.Assign [Expr.Name (Str.ofString "whole") _] _ _) _) _ _ _); refine Held.out ?_))
local macro_rules | `(tactic| walk_at "exec Assign cons ListComp") => `(tactic| (k_dflt (refine LCg.Assign_ListComp_U (F₀ := by k_asm) (by rfl) (by with_unfolding_all rfl) (by with_unfolding_all rfl) (by decide) (by rfl) (by decide) (by rfl) (by rfl) (by rfl) ?_)))
local macro_rules | `(tactic| walk_at "CompSrc") => `(tactic| refine Held.out ?_)
local macro_rules | `(tactic| walk_at "CompEnd") => `(tactic| refine Held.out ?_)
local macro_rules | `(tactic| walk_at "call ref") => `(tactic| (
  (with_reducible show wpAny _ _ (call (Value.ref 103) _ _) _ _ _)
  (refine wpAny_ctx (A' := (Ar 600 600 (some []) []).deeper _) ?_ rfl ca_depth rfl rfl ca_units)
  k_dflt (refine' law_piece_call (by assumption) (by k_asm) (by k_asm) rfl rfl (fm_ok (by decide) (by decide)).1 (fm_ok (by decide) (by decide)).2 (by decide) ?_)
  intro Y h' tk' t1 F' N' $(Lean.mkIdent `hY1) $(Lean.mkIdent `hY2) _; (try dsimp only)))
theorem two_led {a b : Addr × Obj} {news : List (Addr × Obj)} (h : a ∈ news) (h2 : b ∈ news) : ∀ p ∈ [a, b], p ∈ news := fun p hp => by
  rcases List.mem_cons.mp hp with rfl | hp
  · exact h
  · exact one_led h2 p hp
theorem flat_small {l : List (Str × Tok)} (h : l.length ≤ 16) (ho : ∀ p ∈ l, okP p.1 = true) : (flatS l).length ≤ 192 := by
  have key : ∀ l : List (Str × Tok), (∀ p ∈ l, okP p.1 = true) → (flatS l).length ≤ 12 * l.length := by
    intro l
    induction l with
    | nil => intro _; exact Nat.le_refl _
    | cons p r ih =>
      intro ho
      have h1 := okP_len (ho p (List.mem_cons_self ..))
      have h2 := ih fun q hq => ho q (List.mem_cons_of_mem _ hq)
      unfold flatS at h2 ⊢
      simp only [List.map_cons, List.flatten_cons, List.length_append, List.length_cons]
      have : p.1.cps.toList.length = p.1.length := by simp [Str.length]
      omega
  have := key l ho
  omega
theorem flat_cps {l : List (Str × Tok)} (ho : ∀ p ∈ l, okP p.1 = true) : ∀ c ∈ flatS l, c < 1114112 := by
  intro c hc
  unfold flatS at hc
  obtain ⟨y, hy, hcy⟩ := List.mem_flatten.mp hc
  obtain ⟨p, hp, rfl⟩ := List.mem_map.mp hy
  exact okP_cps (ho p hp) c hcy
theorem len_flat {Y : Str} {l : List (Str × Tok)} (h : Y.cps.toList = flatS l) (h2 : (flatS l).length ≤ 192) : Y.length ≤ 192 := by
  rw [← h] at h2
  simpa [Str.length] using h2
def okA (y : Str) : Bool := decide (y.length ≤ 6) && y.cps.toList.all (fun c => decide (c < 1114112))
theorem okA_len {y : Str} (h : okA y = true) : y.length ≤ 6 := by
  unfold okA at h
  simpa using (Bool.and_eq_true_iff.mp h).1
theorem okA_cps {y : Str} (h : okA y = true) : ∀ c ∈ y.cps.toList, c < 1114112 := by
  unfold okA at h
  have := (Bool.and_eq_true_iff.mp h).2
  intro c hc
  simpa using List.all_eq_true.mp this c hc
def okW (a y : Str) : Prop := y.length ≤ 300 ∧ a.length + 1 ≤ y.length ∧ ∀ c ∈ y.cps.toList, c < 1114112
local macro_rules | `(tactic| walk_at "call builtin:str.join") => `(tactic| (
  k_dflt (refine' join_S (by k_asm) (by first | exact List.mem_cons_self .. | exact List.mem_cons_of_mem _ (List.mem_cons_self ..)) (by omega) ?_)
  intro Y t' k' $(Lean.mkIdent `hY); have hYl := len_flat $(Lean.mkIdent `hY) (by assumption)))
theorem app_cps (x y : Str) : (x ++ y).cps.toList = x.cps.toList ++ y.cps.toList := by
  show (x.cps ++ y.cps).toList = _
  simp
theorem okW_mk {a Y e : Str} {l : List (Str × Tok)} (h1 : a.length ≤ 6) (h2 : ∀ c ∈ a.cps.toList, c < 1114112) (hfl : (flatS l).length ≤ 192) (hc : ∀ c ∈ flatS l, c < 1114112) (hY : Y.cps.toList = flatS l) (he : okA e = true) : okW a (a ++ Str.ofString "\"" ++ Y ++ e) := by
  have h4 := okA_len he
  have h5 := okA_cps he
  have h6 := len_flat hY hfl
  have h7 : (Str.ofString "\"").length = 1 := by decide +kernel
  have h8 : (Str.ofString "\"").cps.toList = [34] := by decide +kernel
  refine ⟨?_, ?_, fun c hc' => ?_⟩
  · rw [strLen_append, strLen_append, strLen_append, h7]; omega
  · rw [strLen_append, strLen_append, strLen_append, h7]; omega
  · rw [app_cps, app_cps, app_cps, h8, hY] at hc'
    simp only [List.mem_append, List.mem_singleton] at hc'
    rcases hc' with ((h | h) | h) | h
    · exact h2 c h
    · rw [h]; decide
    · exact hc c h
    · exact h5 c h
local macro_rules | `(tactic| walk_at "call ref") => `(tactic| ((with_reducible show wpAny _ _ (call (Value.ref 89) _ _) _ _ _); refine Held.out ?_))
local macro_rules | `(tactic| walk_at "call ref") => `(tactic| ((with_reducible show wpAny _ _ (call (Value.ref 96) _ _) _ _ _); refine Held.out ?_))
theorem fm_pos {k n : Int} (h : 0 < n) : 0 ≤ Int.fmod k n := by
  rw [Int.fmod_eq_emod_of_nonneg _ (by omega)]
  exact Int.emod_nonneg k (by omega)
theorem okW_slice {a W : Str} {M : Int} (h1 : W.length ≤ 300) (h2 : a.length + 1 ≤ W.length) (h3 : ∀ c ∈ W.cps.toList, c < 1114112) (hM : (a.length : Int) + 1 ≤ M) : okW a (Txt.slice W none (some M)) := by
  obtain ⟨n, rfl⟩ := Int.eq_ofNat_of_zero_le (a := M) (by omega)
  have hc := slice0_cps W n
  have hl : (Txt.slice W none (some (n : Int))).length = min n W.length := by
    have : (Txt.slice W none (some (n : Int))).cps.toList.length = (W.cps.toList.take n).length := by rw [hc]
    rw [List.length_take] at this
    simpa [Str.length] using this
  refine ⟨by rw [hl]; omega, by rw [hl]; omega, fun c hc' => ?_⟩
  rw [hc] at hc'
  exact h3 c (List.mem_of_mem_take hc')
theorem law_string_callZ {w : World} {gd : Option (List Code)} {base : Heap} {outer : List Env} {s : Shared} {mean : ExcName → Option Value} {mg mb : Str → Option Value} {g : Heap} {L : Addr} {m : Str → Option Value} {env : Env} {news : List (Addr × Obj)} {n : Nat} {E Q : Value → Shared → Prop}
    {x : Str} {t tk : Tok} {a : Nat} {strict : Bool} (C : Cx w mean mg mb base outer g) (F : Fr g L s.heap m) (N : News g L s.heap news) (hf : env.frame = some L) (hke : env.scope.kind = .function)
    (hx : x.length ≤ 1048576) (hk2 : a + 1 ≤ x.length) (hc : ∀ c ∈ x.cps.toList, c < 1114112) (hn : n ≤ 670)
    (hR1 : ∀ mx p h' tk' D t1 t2 t3, Fr g L h' m → News g L h' ((D, tupOf [.str (Str.ofString "no") t1, .str mx t2, .int p t3]) :: news) → (∀ p ∈ news, p.1 ≠ D) → scan x strict (a + 1) (a + 1) [] false = .no mx p → Q (.ref D) { s with heap := h', toks := tk' })
    (hR2 : ∀ acc e Y h' tk' D t1 t2 t3, Fr g L h' m → News g L h' ((D, tupOf [.str (Str.ofString "is") t1, .str Y t2, .int ((e : Nat) : Int) t3]) :: news) → (∀ p ∈ news, p.1 ≠ D) → scan x strict (a + 1) (a + 1) [] false = .is acc e false → Y.cps.toList = acc → Q (.ref D) { s with heap := h', toks := tk' })
    (hR3 : ∀ p1 p2 h' tk' D t1 t2 t3, Fr g L h' m → News g L h' ((D, tupOf [.str (Str.ofString "lone") t1, .int p1 t2, .int p2 t3]) :: news) → (∀ p ∈ news, p.1 ≠ D) → Q (.ref D) { s with heap := h', toks := tk' }) :
    wpAny (model Challenge.rw_ev0023_01.row.prog w) ((Ar n n gd outer).deeper env) (call (.ref 89) [.str x t, .int ((a : Int) + 1) tk, .bool strict] []) Q E s :=
  law_string_call (a := a + 1) C F N hf hke hx (by omega) hk2 hc hn hR1 hR2 hR3
theorem law_scanned_callZ {w : World} {gd : Option (List Code)} {outer : List Env} {s : Shared} {mean : ExcName → Option Value} {mg mb : Str → Option Value} {g : Heap} {L : Addr} {m : Str → Option Value} {env : Env} {news : List (Addr × Obj)} {n : Nat} {E Q : Value → Shared → Prop}
    {x : Str} {t tk : Tok} {a : Nat} {strict : Bool} (C : Cx w mean mg mb g outer g) (F : Fr g L s.heap m) (N : News g L s.heap news) (hf : env.frame = some L) (hke : env.scope.kind = .function)
    (hx : x.length ≤ 1048576) (hk2 : a + 1 ≤ x.length) (hc : ∀ c ∈ x.cps.toList, c < 1114112) (hn : n ≤ 670)
    (hR1 : ∀ mx p h' tk' D t1 t2 t3, Fr g L h' m → News g L h' ((D, tupOf [.str (Str.ofString "no") t1, .str mx t2, .int p t3]) :: news) → scan x strict (a + 1) (a + 1) [] false = .no mx p → Q (.ref D) { s with heap := h', toks := tk' })
    (hR2 : ∀ acc e lone Y h' tk' D t1 t2 t3, Fr g L h' m → News g L h' ((D, tupOf [.str (Str.ofString "is") t1, .str Y t2, .int ((e : Nat) : Int) t3]) :: news) → scan x strict (a + 1) (a + 1) [] false = .is acc e lone → Y.cps.toList = acc → Q (.ref D) { s with heap := h', toks := tk' }) :
    wpAny (model Challenge.rw_ev0023_01.row.prog w) ((Ar n n gd outer).deeper env) (call (.ref 96) [.str x t, .int ((a : Int) + 1) tk, .bool strict] []) Q E s :=
  law_scanned_call (a := a + 1) C F N hf hke hx (by omega) hk2 hc hn hR1 hR2
theorem okP_mk {Y : Str} (h1 : Y.length ≤ 12) (h2 : ∀ c ∈ Y.cps.toList, c < 1114112) : okP Y = true := by
  unfold okP
  rw [Bool.and_eq_true_iff]
  exact ⟨by simpa using h1, List.all_eq_true.mpr fun c hc => by simpa using h2 c hc⟩
theorem law_good : PySem.Challenge.rw_ev0023_01.Holds := hd (by
  k_go0
  (rename Below _ _ _ _ => K0)
  (rename Frag.In _ _ => KX)
  (rename Top _ _ _ _ _ _ => T9)
  have C := Cx.mk (w := _) (fun b o e => e) K0.frames KX T9
  have mk1 : StopMark 1 := ⟨⟩
  have mk3 : StopMark 3 := ⟨⟩
  have mk4 : StopMark 4 := ⟨⟩
  k_steps
  (with_reducible rename StopMark 1 => mkA); clear mkA
  (rename Fr _ _ _ _ => F); (rename News _ _ _ _ => N)
  refine join_my (σ := Obj × Int × Tok) (fun _ => [("script", .ref _)]) (fun c => [(_, c.1)]) (fun c => c.1.data = .cell (some (.int c.2.1 c.2.2))) (_, 0, 0) F N (one_led (List.mem_cons_self ..)) (ks_cons rfl ks_nil) ?_ ?_
  · show wpAny _ _ _ _ _ _
    k_steps
    · (rename Fr _ _ _ _ => F9); (rename News _ _ _ _ => N9)
      exact JPost.go (_, _, _) F9 N9 (one_led (List.mem_cons_self ..)) (ks_cons rfl ks_nil) (by assumption)
    · (rename Fr _ _ _ _ => F9); (rename News _ _ _ _ => N9)
      exact JPost.go (_, _, _) F9 N9 (one_led (List.mem_cons_self ..)) (ks_cons rfl ks_nil) (by assumption)
  · clear F N
    intro c u h tk0 hd' F N
    obtain ⟨oc, hv, ht⟩ := c
    dsimp only [kstB] at hd' F N ⊢
    (try k_fold)
    k_steps
    (rename Fr _ _ _ _ => F); (rename News _ _ _ _ => N)
    (rename IntsAre _ (List.take _ _) => hI9)
    refine LCg.CompSrc.ledger (by rfl) F N (List.mem_cons_self ..) (by rw [List.size_toArray, hI9.length, List.length_take, sizeLine_eq]; omega) ?_
    intro g'
    clear F N
    refine kmy_list hI9 (fun k' t' I' oI' C' oC' D' m' ys' h' tk' E' hk' hC' hx' F N off' ne' => ?_) (fun l hl hok => ?_)
    · (try k_fold)
      k_steps
      all_goals
        (rename Fr _ _ _ _ => F9); (rename News _ _ _ _ => N9)
        exact LCg.CompEnd.intro F9 N9 _ (fun p hp => List.mem_cons_of_mem _ hp) off' (.inr ⟨_, List.mem_cons_self .., rfl, _, rfl⟩) ⟨rfl, _, _, rfl, okP_mk hY1 hY2⟩
    · have hlen : l.length ≤ 16 := by
        rw [hl, hI9.length, List.length_take]; omega
      clear hI9
      have hfl := flat_small hlen hok
      k_steps
      (with_reducible rename StopMark 3 => mkA); clear mkA
      (rename Fr _ _ _ _ => F); (rename News _ _ _ _ => N)
      refine join2 (σ := Str × Tok) (fun c => [("ahead", .str c.1 c.2)]) [("pieces", .ref _)] [(_, LCg.lst (strValues l)), (_, oc)] (fun c => okA c.1 = true) F N (two_led (List.mem_cons_self ..) (List.mem_cons_of_mem _ (List.mem_cons_of_mem _ (List.mem_cons_self ..)))) (ks_cons rfl ks_nil) ?_ ?_
      · show wpAny _ _ _ _ _ _
        k_steps
        all_goals
          (rename Fr _ _ _ _ => F9); (rename News _ _ _ _ => N9)
          exact JPost.go (_, _) F9 N9 (two_led (by first | exact List.mem_cons_self .. | exact List.mem_cons_of_mem _ (List.mem_cons_self ..) | exact List.mem_cons_of_mem _ (List.mem_cons_of_mem _ (List.mem_cons_self ..)) | exact List.mem_cons_of_mem _ (List.mem_cons_of_mem _ (List.mem_cons_of_mem _ (List.mem_cons_self ..)))) (by first | exact List.mem_cons_self .. | exact List.mem_cons_of_mem _ (List.mem_cons_self ..) | exact List.mem_cons_of_mem _ (List.mem_cons_of_mem _ (List.mem_cons_self ..)) | exact List.mem_cons_of_mem _ (List.mem_cons_of_mem _ (List.mem_cons_of_mem _ (List.mem_cons_self ..))))) (ks_cons rfl (ks_cons rfl ks_nil)) (by dsimp only; decide +kernel)
      · clear F N
        intro c u1 h1 tk1 hA F N
        obtain ⟨a, ta⟩ := c
        dsimp only [kstB, List.cons_append, List.nil_append] at hA F N ⊢
        have hA1 := okA_len hA
        have hA2 := okA_cps hA
        (try k_fold)
        k_steps
        (with_reducible rename StopMark 4 => mkA); clear mkA
        (rename Fr _ _ _ _ => F); (rename News _ _ _ _ => N)
        refine join2 (σ := Str × Tok) (fun c => [("whole", .str c.1 c.2)]) [("ahead", .str a _)] [(_, oc)] (fun c => okW a c.1) F N (one_led (by first | exact List.mem_cons_self .. | exact List.mem_cons_of_mem _ (List.mem_cons_self ..) | exact List.mem_cons_of_mem _ (List.mem_cons_of_mem _ (List.mem_cons_self ..)) | exact List.mem_cons_of_mem _ (List.mem_cons_of_mem _ (List.mem_cons_of_mem _ (List.mem_cons_self ..))))) (ks_cons rfl ks_nil) ?_ ?_
        · show wpAny _ _ _ _ _ _
          k_steps
          all_goals
            (rename Fr _ _ _ _ => F9); (rename News _ _ _ _ => N9)
            refine JPost.go (_, _) F9 N9 (one_led (by first | exact List.mem_cons_self .. | exact List.mem_cons_of_mem _ (List.mem_cons_self ..) | exact List.mem_cons_of_mem _ (List.mem_cons_of_mem _ (List.mem_cons_self ..)) | exact List.mem_cons_of_mem _ (List.mem_cons_of_mem _ (List.mem_cons_of_mem _ (List.mem_cons_self ..))))) (ks_cons rfl (ks_cons rfl ks_nil)) (okW_mk hA1 hA2 hfl (flat_cps hok) hY ?_)
            decide +kernel
        · clear F N
          intro c u2 h2 tk2 hW F N
          obtain ⟨W, tw⟩ := c
          obtain ⟨hW1, hW2, hW3⟩ := hW
          dsimp only [kstB, List.cons_append, List.nil_append] at hW1 hW2 hW3 F N ⊢
          (try k_fold)
          k_steps
          (try clear F); (try clear N)
          (rename Fr _ _ _ _ => F); (rename News _ _ _ _ => N)
          refine for_list (σ := Unit) (fun _ => [("ahead", .str a _)]) (fun _ => True) (fun v => ∃ S t, v = .str S t ∧ okW a S) () F N rfl rfl rfl (ks_cons rfl ks_nil) trivial (fun _ => rfl) ?_ ?_ ?_
          · k_steps
            (rename Fr _ _ _ _ => F9); (rename News _ _ _ _ => N9)
            refine ⟨_, _, _, _, _, _, _, rfl, rfl, F9, rfl, N9, fun p hp => List.mem_cons_of_mem _ hp, List.mem_cons_self .., ?_⟩
            intro v hv
            simp only [List.mem_cons, List.not_mem_nil, or_false] at hv
            rcases hv with rfl | rfl
            · exact ⟨_, _, rfl, hW1, hW2, hW3⟩
            · refine ⟨_, _, rfl, okW_slice hW1 hW2 hW3 ?_⟩
              have := fm_pos (k := Int.fdiv hv 48) (n := (W.length : Int) - (a.length : Int)) (by omega)
              split <;> omega
          · clear F N
            rintro i c u3 h3 tk3 vi own - ⟨S, tS, rfl, hS1, hS2, hS3⟩ F N
            dsimp only [kstB] at F N ⊢
            (try k_fold)
            k_steps
            refine for_list (σ := Unit) (fun _ => [("s", .str S _), ("ahead", .str a _)]) (fun _ => True) (fun v => ∃ b, v = .bool b) () F N rfl rfl rfl (ks_cons rfl (ks_cons rfl ks_nil)) trivial (fun _ => rfl) ?_ ?_ ?_
            · k_steps
              (rename Fr _ _ _ _ => F9); (rename News _ _ _ _ => N9)
              refine ⟨_, _, _, _, _, _, _, rfl, rfl, F9, rfl, N9, fun p hp => List.mem_cons_of_mem _ hp, List.mem_cons_self .., ?_⟩
              intro v hv
              simp only [List.mem_cons, List.not_mem_nil, or_false] at hv
              rcases hv with rfl | rfl
              · exact ⟨_, rfl⟩
              · exact ⟨_, rfl⟩
            · clear F N
              rintro i2 c2 u4 h4 tk4 vi own2 - ⟨b, rfl⟩ F N
              dsimp only [kstB] at F N ⊢
              (try k_fold)
              k_steps
              refine wpAny_ctx (A' := (Ar 600 600 (some []) []).deeper _) ?_ rfl ca_depth rfl rfl ca_units
              (rename Fr _ _ _ _ => F); (rename News _ _ _ _ => N)
              refine law_string_callZ C F N rfl rfl (by omega) hS2 hS3 (by decide) (fun mx p h5 tk5 D t1 t2 t3 F N _ hsc => ?_) (fun acc e Y h5 tk5 D t1 t2 t3 F N _ hsc hY => ?_) (fun p1 p2 h5 tk5 D t1 t2 t3 F N _ => ?_)
              · k_steps
                (rename Fr _ _ _ _ => F); (rename News _ _ _ _ => N)
                refine wpAny_ctx (A' := (Ar 600 600 (some []) []).deeper _) ?_ rfl ca_depth rfl rfl ca_units
                refine law_scanned_callZ C F N rfl rfl (by omega) hS2 hS3 (by decide) (fun mx' p' h6 tk6 D2 t4 t5 t6 F N hsc' => ?_) (fun acc e lone Y h6 tk6 D2 t4 t5 t6 F N hsc' _ => ?_)
                · rw [hsc] at hsc'
                  cases hsc'
                  k_steps
                  (rename Fr _ _ _ _ => F); (rename News _ _ _ _ => N)
                  refine ne_same3 N (by first | exact List.mem_cons_self .. | exact List.mem_cons_of_mem _ (List.mem_cons_self ..) | exact List.mem_cons_of_mem _ (List.mem_cons_of_mem _ (List.mem_cons_self ..)) | exact List.mem_cons_of_mem _ (List.mem_cons_of_mem _ (List.mem_cons_of_mem _ (List.mem_cons_self ..)))) (by first | exact List.mem_cons_self .. | exact List.mem_cons_of_mem _ (List.mem_cons_self ..) | exact List.mem_cons_of_mem _ (List.mem_cons_of_mem _ (List.mem_cons_self ..)) | exact List.mem_cons_of_mem _ (List.mem_cons_of_mem _ (List.mem_cons_of_mem _ (List.mem_cons_self ..)))) (by decide +kernel) (scan_no_ok hS3 hsc) (Nat.le_of_ble_eq_true rfl) ?_
                  k_steps
                  (rename Fr _ _ _ _ => F9); (rename News _ _ _ _ => N9)
                  refine FPost.turn () F9 N9 (fun _ h => List.mem_cons_of_mem _ (List.mem_cons_of_mem _ h)) (ks_cons rfl (ks_cons rfl ks_nil)) ?_
                  exact trivial
                · rw [hsc] at hsc'
                  cases hsc'
              · k_steps
                (rename Fr _ _ _ _ => F); (rename News _ _ _ _ => N)
                refine wpAny_ctx (A' := (Ar 600 600 (some []) []).deeper _) ?_ rfl ca_depth rfl rfl ca_units
                refine law_scanned_callZ C F N rfl rfl (by omega) hS2 hS3 (by decide) (fun mx' p' h6 tk6 D2 t4 t5 t6 F N hsc' => ?_) (fun acc' e' lone' Y' h6 tk6 D2 t4 t5 t6 F N hsc' hY' => ?_)
                · rw [hsc] at hsc'
                  cases hsc'
                · rw [hsc] at hsc'
                  cases hsc'
                  obtain rfl := str_eq_of_lists (hY'.trans hY.symm)
                  k_steps
                  (rename Fr _ _ _ _ => F); (rename News _ _ _ _ => N)
                  refine ne_same3 N (by first | exact List.mem_cons_self .. | exact List.mem_cons_of_mem _ (List.mem_cons_self ..) | exact List.mem_cons_of_mem _ (List.mem_cons_of_mem _ (List.mem_cons_self ..)) | exact List.mem_cons_of_mem _ (List.mem_cons_of_mem _ (List.mem_cons_of_mem _ (List.mem_cons_self ..)))) (by first | exact List.mem_cons_self .. | exact List.mem_cons_of_mem _ (List.mem_cons_self ..) | exact List.mem_cons_of_mem _ (List.mem_cons_of_mem _ (List.mem_cons_self ..)) | exact List.mem_cons_of_mem _ (List.mem_cons_of_mem _ (List.mem_cons_of_mem _ (List.mem_cons_self ..)))) (by decide +kernel) (scan_is_ok hS3 hsc hY) (Nat.le_of_ble_eq_true rfl) ?_
                  k_steps
                  (rename Fr _ _ _ _ => F9); (rename News _ _ _ _ => N9)
                  refine FPost.turn () F9 N9 (fun _ h => List.mem_cons_of_mem _ (List.mem_cons_of_mem _ h)) (ks_cons rfl (ks_cons rfl ks_nil)) ?_
                  exact trivial
              · k_steps
                (rename Fr _ _ _ _ => F9); (rename News _ _ _ _ => N9)
                refine FPost.turn () F9 N9 (fun _ h => List.mem_cons_of_mem _ h) (ks_cons rfl (ks_cons rfl ks_nil)) ?_
                exact trivial
            · clear F N
              intro c2 u4 h4 tk4 _ F N
              dsimp only [kstB] at F N ⊢
              (try k_fold)
              k_steps
              (rename Fr _ _ _ _ => F9); (rename News _ _ _ _ => N9)
              refine FPost.turn () F9 N9 (fun _ h => h) (ks_cons rfl ks_nil) ?_
              exact trivial
          · clear F N
            intro c2 u4 h4 tk4 _ F N
            dsimp only [kstB] at F N ⊢
            (try k_fold)
            k_steps)
end Mine
end

theorem PySem.Challenge.cw_ev0023_01_holds : PySem.Challenge.rw_ev0023_01.Holds := by
  exact Mine.law_good
