import PyProof.Rows.All
import Wide.All
import OpenK.AllK
import Wide.FinOn
import Lean
import PySem.Challenge.RW_oy0009_01
open PySem PySem.W PyProof.Rows
set_option Elab.async false
set_option maxRecDepth 100000
section PartHeadA
open PySem PySem.W PyProof.Rows
namespace Mine
set_option maxRecDepth 100000 in
set_option maxHeartbeats 8000000 in
open_top hd for PySem.Challenge.rw_oy0009_01
end Mine

end PartHeadA
section PartB1
open PySem PySem.W PyProof.Rows PySem.Calls PySem.Spec
namespace Mine

abbrev PG : Program := PySem.Challenge.rw_oy0009_01.prog
noncomputable abbrev KK (w : World) : Frag := hd.heap_39 w.params
abbrev TT (mean : ExcName → Option Value) (mg mb : Str → Option Value) (h : Heap) : Prop := Top hd.view_39 (looseW hd.view_39 []) mean mg mb h
abbrev Ar (dp un : Nat) (gd : Option (List Code)) (outer : List Env) : Around := { handled := none, depth := dp, frames := some outer, guards := gd, units := un }

/-- what a call leaves: every object stands as it stood, the tokens go on -/
def Kp (s s' : Shared) : Prop := ∃ h' tk, s' = { s with heap := h', toks := tk } ∧ s.toks ≤ tk ∧ ∀ b o, s.heap.get? b = some o → h'.get? b = some o

theorem Kp.refl (s : Shared) : Kp s s := ⟨s.heap, s.toks, rfl, Nat.le_refl _, fun _ _ e => e⟩
theorem Kp.trans {s s₁ s₂ : Shared} (a : Kp s s₁) (b : Kp s₁ s₂) : Kp s s₂ := by
  obtain ⟨h, tk, rfl, l, k⟩ := a
  obtain ⟨h', tk', rfl, l', k'⟩ := b
  exact ⟨h', tk', rfl, Nat.le_trans l l', fun b o e => k' b o (k b o e)⟩
theorem Kp.keep {s s' : Shared} (a : Kp s s') : ∀ b o, s.heap.get? b = some o → s'.heap.get? b = some o := by
  obtain ⟨h, tk, rfl, l, k⟩ := a
  exact k
theorem Kp.toks {s s' : Shared} (a : Kp s s') : s.toks ≤ s'.toks := by
  obtain ⟨h, tk, rfl, l, k⟩ := a
  exact l
theorem Kp.keeps {s s' : Shared} (a : Kp s s') : Keeps s s' := by
  obtain ⟨h, tk, rfl, l, k⟩ := a
  exact ⟨h, tk, rfl, k⟩
theorem Kp.of {s s' : Shared} (a : Keeps s s') (l : s.toks ≤ s'.toks) : Kp s s' := by
  obtain ⟨h, tk, rfl, k⟩ := a
  exact ⟨h, tk, rfl, l, k⟩

/-- the end of a call that gives back a value -/
def Ret (P : Value → Heap → Prop) (s : Shared) (r : Result) (s' : Shared) : Prop := ∃ v, r = .ok (.ret v) ∧ P v s'.heap ∧ Kp s s'

theorem enter {prog : Program} {w : World} {A : Around} {s : Shared} {K : Frag} {p : Program} {loose : List Str} {mean : ExcName → Option Value} {mg mb : Str → Option Value}
    {R : Result → Shared → Prop} {name qual : Str} {params : Arguments} {body : List Stmt} {scope : Scope} {dV kV doc pm cdv ct oc : Value} {an od : Option Addr} {osl : Array (Option Value)} {f : Addr} {args : Args} {binds : List (Str × Value)}
    (X : K.In s.heap) (T : Top p loose mean mg mb s.heap)
    (ho : K.lookup f = some ⟨oc, od, .func (fnOf name qual params body scope dV kV doc pm an cdv ct), osl⟩) (hcd : codeIn K cdv qual = true) (hroom : A.depth < recursionLimit)
    (hbind : BindsTo s (fnOf name qual params body scope dV kV doc pm an cdv ct) args binds) (hloc : ∀ y ∈ binds, scope.names.lookup y.1 = some .local)
    (h : ∀ L' h₁, Fr s.heap L' h₁ (fun y => binds.reverse.lookup y) → News s.heap L' h₁ [] →
      wpAny (model prog w) (A.deeper (envOf qual scope L' f cdv)) (execs body (envOf qual scope L' f cdv))
        (fun fl s' => R (.ok (.ret (match fl with | .ret v => v | _ => .none))) s')
        (fun e s' => wpAny (model prog w) (A.deeper (envOf qual scope L' f cdv)) (leaving (envOf qual scope L' f cdv) e) (fun _ s'' => R (.error e) s'') (fun e' s'' => R (.error e') s'') s')
        { s with heap := h₁, toks := s.toks + binds.length })
    (hco : scope.isCoroutine = false) (hgen : scope.isGenerator = false) (hk : scope.kind = .function)
    (hcell : ∀ x ∈ scope.names, x.2 ≠ .cell) : codeAny (model prog w) A (.call (.ref f) args) R s :=
  codeAny_call_def (fd := fnOf name qual params body scope dV kV doc pm an cdv ct) (body := body) (binds := binds) hroom (X _ _ ho) rfl T.nolimit (codeRec_of X hcd) rfl hbind hcell hloc
    (fun h₁ hns hk₁ => h s.heap.objs.size h₁ ⟨hns, hk₁, Nat.le_refl _⟩ .nil) hco hgen hk

theorem ns_none {K : Frag} {h : Heap} {a : Addr} {m : Str → Option Value} {n : Str} (X : K.In h) (G : h.Ns a m) (e : nsIn K a n = some none) : m n = none := by
  obtain ⟨o, es, ep, ho, hd, _, hf⟩ := G
  unfold nsIn at e
  split at e
  · rename_i c d es' n' sl q
    have := X _ _ q
    rw [ho] at this
    cases this
    cases hd
    rw [← hf n]
    unfold nsFind findBy
    rw [← Array.find?_toList]
    split at e
    · cases e
    · rename_i hq
      rw [hq]
      rfl
  · cases e

theorem booked {w : World} {mean : ExcName → Option Value} {mg mb : Str → Option Value} {h : Heap} (X : (KK w).In h) (T : TT mean mg mb h) : NoneBooked h := by
  obtain ⟨mc, hn, _⟩ := T.nodigits
  exact ⟨mc, hn, ns_none X hn (by rfl)⟩
theorem booked_keeps {h h' : Heap} (b : NoneBooked h) (k : ∀ b o, h.get? b = some o → h'.get? b = some o) : NoneBooked h' := by
  obtain ⟨mc, hn, e⟩ := b
  exact ⟨mc, hn.keeps k, e⟩

theorem fr_at {h₀ h h' : Heap} {L it : Addr} {m : Str → Option Value} (F : Fr h₀ L h m) (hs : Heap.ExtBut it h h') (hL : it ≠ L) (hn : h₀.get? it = none) : Fr h₀ L h' m :=
  ⟨F.ns.extBut hs (Ne.symm hL), fun b o e => hs b o (by rintro rfl; rw [hn] at e; cases e) (F.keep b o e), F.above⟩
theorem fr_keep {h₀ h h' : Heap} {L : Addr} {m : Str → Option Value} (F : Fr h₀ L h m) (k : ∀ b o, h.get? b = some o → h'.get? b = some o) : Fr h₀ L h' m :=
  ⟨F.ns.keeps k, fun b o e => k b o (F.keep b o e), F.above⟩

section
variable {M : Model} {A : Around} {E : Value → Shared → Prop} {s : Shared} {name : Str} {scope : Scope} {L a : Addr} {cd : Value} {h₀ : Heap} {m : Str → Option Value}
theorem stS {x : Str} {v : Value} {Q : Unit → Shared → Prop} (F : Fr h₀ L s.heap m)
    (h : ∀ h', Fr h₀ L h' (fun y => if y = x then some v else m y) → Heap.SameBut L s.heap h' → Q () { s with heap := h', toks := s.toks + 1 })
    (hk : scope.kind = .function := by rfl) (hl : (envOf name scope L a cd).kindOf x = some .local := by rfl) :
    wpAny M A (storeName (envOf name scope L a cd) x v) Q E s :=
  wpAny_storeName_local hl F.ns (fun h' hn hs => h h' (F.set hn hs) hs)
    (by show (scope.kind == .class || (scope.kind == .module && L != mainGlobals)) = false; rw [hk]; rfl)
end

theorem isSame_str {M : Model} {A : Around} {E : Value → Shared → Prop} {s : Shared} {y z : Str} {u v : Tok} {Q : Bool → Shared → Prop}
    (hu : u ≠ 0) (hv : v ≠ 0) (huv : u ≠ v) (hb : NoneBooked s.heap) (hq : ∀ b, (y ≠ z → b = false) → Q b s) : wpAny M A (isSame (.str y u) (.str z v)) Q E s := by
  show wpAny M A (isSame.created (y == z) u v) Q E s
  unfold isSame.created
  refine wpAny_ite ?_
  split
  · rename_i h
    simp [hu, hv] at h
  refine wpAny_ite ?_
  split
  · rename_i h
    exact absurd (beq_iff_eq.mp h) huv
  refine wpAny_ite ?_
  split
  · exact wpAny_pure (hq _ fun _ => rfl)
  rename_i hyz
  have hyz' : y = z := by simpa using hyz
  refine wpAny_bind (wpAny_sharingNotTold_none hb ?_)
  first | rw [if_neg Bool.false_ne_true] | simp only [Bool.false_eq_true, if_false]
  refine wpAny_bind (wpAny_sharingNotTold_none hb ?_)
  first | rw [if_neg Bool.false_ne_true] | simp only [Bool.false_eq_true, if_false]
  exact wpAny_bind (wpAny_rule (wpAny_bind (wpAny_askSetting (wpAny_pure (hq _ fun h => absurd hyz' h)))))

theorem is_str {M : Model} {A : Around} {E : Value → Shared → Prop} {s : Shared} {y z : Str} {u v : Tok} {Q : Value → Shared → Prop}
    (hu : u ≠ 0) (hv : v ≠ 0) (huv : u ≠ v) (hb : NoneBooked s.heap) (hq : ∀ b, (y ≠ z → b = false) → Q (.bool b) s) : wpAny M A (compareOp .Is (.str y u) (.str z v)) Q E s := by
  show wpAny M A (do return .bool (← isSame (.str y u) (.str z v))) Q E s
  exact wpAny_bind (isSame_str hu hv huv hb fun b h => wpAny_pure (hq b h))

theorem is_str_self {M : Model} {A : Around} {E : Value → Shared → Prop} {s : Shared} {y z : Str} {u : Tok} {Q : Value → Shared → Prop}
    (hu : u ≠ 0) (hq : Q (.bool true) s) : wpAny M A (compareOp .Is (.str y u) (.str z u)) Q E s := by
  show wpAny M A (do return .bool (← isSame (.str y u) (.str z u))) Q E s
  refine wpAny_bind ?_
  show wpAny M A (isSame.created (y == z) u u) _ E s
  unfold isSame.created
  refine wpAny_ite ?_
  split
  · rename_i h
    simp [hu] at h
  refine wpAny_ite ?_
  split
  · exact wpAny_pure (wpAny_pure hq)
  · rename_i h
    simp at h

theorem pyNext_str_item {prog : Program} {w : World} {A : Around} {E : Value → Shared → Prop} {s : Shared} {it : Addr} {x : Str} {t : Tok} {i c : Nat} {Q : Option Value → Shared → Prop} (hit : s.heap.IsStrIter it (strIterType x) x t i) (hx : x.cps[i]? = some c)
    (hQ : ∀ h', h'.IsStrIter it (strIterType x) x t (i + 1) → Heap.SameBut it s.heap h' → Q (some (.str ⟨#[c]⟩ s.toks)) { s with heap := h', toks := s.toks + 1 }) :
    wpAny (model prog w) A (pyNext (.ref it)) Q E s := by
  cases ha : x.cps.all (· < 128)
  · have e : strIterType x = "str_iterator" := by simp [strIterType, ha]
    rw [e] at hit hQ
    exact wpAny_pyNext_wide_item hit hx hQ
  · have e : strIterType x = "str_ascii_iterator" := by simp [strIterType, ha]
    rw [e] at hit hQ
    exact wpAny_pyNext_ascii_item hit hx hQ
theorem pyNext_str_end {prog : Program} {w : World} {A : Around} {E : Value → Shared → Prop} {s : Shared} {it : Addr} {x : Str} {t : Tok} {i : Nat} {Q : Option Value → Shared → Prop} (hh : A.handled = none)
    (hit : s.heap.IsStrIter it (strIterType x) x t i) (hx : x.cps[i]? = none)
    (hQ : ∀ h', Heap.ExtBut it s.heap h' → Q none { s with heap := h' }) : wpAny (model prog w) A (pyNext (.ref it)) Q E s := by
  cases ha : x.cps.all (· < 128)
  · have e : strIterType x = "str_iterator" := by simp [strIterType, ha]
    rw [e] at hit
    exact wpAny_pyNext_wide_end hh hit hx hQ
  · have e : strIterType x = "str_ascii_iterator" := by simp [strIterType, ha]
    rw [e] at hit
    exact wpAny_pyNext_ascii_end hh hit hx hQ

end Mine

end PartB1
section PartB2
open PySem PySem.W PyProof.Rows PySem.Calls PySem.Spec
namespace Mine

theorem take_count (l : List Nat) (i c : Nat) (h : l[i]? = some c) : (l.take (i + 1)).count 39 = (l.take i).count 39 + (if c = 39 then 1 else 0) := by
  rw [List.take_add_one, h, List.count_append]
  simp only [Option.toList_some, List.count_singleton]
  congr 1
  by_cases hc : c = 39 <;> simp [hc]

theorem tick_ne {c : Nat} : ((⟨#[c]⟩ : Str) == Str.ofString "'") = decide (c = 39) := by
  have e : Str.ofString "'" = ⟨#[39]⟩ := by decide +kernel
  rw [e]
  by_cases h : c = 39
  · subst h; simp
  · have : (⟨#[c]⟩ : Str) ≠ ⟨#[39]⟩ := by
      intro q
      injection q with q
      simp at q
      exact h q
    rw [beq_eq_false_iff_ne.mpr this]
    simp [h]

theorem tick_test {prog : Program} {w : World} {A : Around} {E : Value → Shared → Prop} {s : Shared} {name : Str} {scope : Scope} {L a : Addr} {cd : Value} {h₀ : Heap} {m : Str → Option Value} {v : Str} {c : Nat} {tk u : Nat}
    {p1 p2 p3 p4 p5 p6 p7 : Pos} {whole : Sem Value} {Q : Bool → Shared → Prop}
    (F : Fr h₀ L s.heap m) (hv : m v = some (.str ⟨#[c]⟩ tk)) (hb : m (Str.ofString "b") = some (.str (Str.ofString "'") u)) (htk : tk ≠ 0) (hu : u ≠ 0) (hne : tk ≠ u) (NB : NoneBooked s.heap)
    (h : Q (decide (c = 39)) s) (hk : scope.kind = .function := by rfl) (hl : (envOf name scope L a cd).kindOf v = some .local := by rfl) (hl2 : (envOf name scope L a cd).kindOf (Str.ofString "b") = some .local := by rfl)
    (hd : (v == ("__debug__" : Str)) = false := by decide) :
    wpAny (model prog w) A (isTrue (.BoolOp .Or [.Compare (.Name v p1) [.Is] [.Name (Str.ofString "b") p2] p3, .Compare (.Name v p4) [.Eq] [.Name (Str.ofString "b") p5] p6] p7) (envOf name scope L a cd) whole) Q E s := by
  refine wpAny_isTrue_BoolOp (wpAny_allTrue_Or_cons (wpAny_isTrue_Compare1 (ld F hv (ld F hb (is_str htk hu hne NB fun b hbn => wpAny_truthy_bool ?_) hk hl2) hk hl hd)))
  have e := @tick_ne c
  cases b with
  | true =>
    rw [if_pos rfl]
    have : c = 39 := by
      by_cases q : c = 39
      · exact q
      · rw [decide_eq_false q] at e
        exact absurd (hbn (beq_eq_false_iff_ne.mp e)) (by simp)
    simpa [this] using h
  | false =>
    rw [if_neg Bool.false_ne_true]
    refine wpAny_allTrue_Or_cons (wpAny_isTrue_Compare1 (ld F hv (ld F hb (eq_str (wpAny_truthy_bool ?_)) hk hl2) hk hl hd))
    rw [e]
    by_cases q : c = 39
    · simpa [q] using h
    · rw [if_neg (by simpa using q)]
      refine wpAny_allTrue_Or_nil ?_
      simpa [q] using h

set_option maxHeartbeats 4000000 in
theorem count_spec {w : World} {mean : ExcName → Option Value} {mg mb : Str → Option Value} {dp un : Nat} {gd : Option (List Code)} {outer : List Env} {s : Shared} {x : Str} {t : Tok} {u : Nat}
    (X : (KK w).In s.heap) (T : TT mean mg mb s.heap) (hd : dp + 1 < recursionLimit) (hu0 : 0 < u) (hus : u < s.toks) :
    codeAny (model PG w) (Ar dp un gd outer) (.call (.ref 56) ⟨[.str x t, .str (Str.ofString "'") u], []⟩) (Ret (fun v _ => ∃ t', t' ≠ 0 ∧ v = .int (x.cps.toList.count 39 : Nat) t') s) s := by
  have NB := booked X T
  revert X; dsimp only [PG, KK]; k_fill; intro X
  refine' enter X T ?k6 ?k7 ?k8 ?k9 ?kB ?_ ?c2 ?c3 ?c4 ?c5
  (case k6 => k_is); (case k7 => k_is); (case k8 => ktr_room); (case k9 => exact BindsTo.of_eq rfl); (case c5 => decide); (case kB => exact locs rfl); (case c2 => exact rfl); (case c3 => exact rfl); (case c4 => exact rfl)
  intro L' h' F' N'
  dsimp only
  refine wpAny_execs_cons (wpAny_Assign_Name (wpAny_Constant_int (st F' fun h₁ F₁ => ?_)))
  dsimp only
  refine wpAny_execs_cons (wpAny_For (ld F₁ rfl (wpAny_pyIter_strU ?_)))
  dsimp only
  have hLh : L' < h₁.objs.size := F₁.ns.lt
  have hnew : s.heap.get? h₁.objs.size = none := by
    cases e : s.heap.get? h₁.objs.size with
    | none => rfl
    | some o => exact absurd (Heap.lt_size (F₁.keep _ _ e)) (Nat.lt_irrefl _)
  refine codeAny_forLoop_any
    (fun n s' => ∃ H tk m' i ct, s' = { s with heap := H, toks := tk } ∧ H.IsStrIter h₁.objs.size (strIterType x) x t i ∧ Fr s.heap L' H m' ∧
      m' (Str.ofString "count") = some (.int ((x.cps.toList.take i).count 39 : Nat) ct) ∧ ct ≠ 0 ∧ m' (Str.ofString "b") = some (.str (Str.ofString "'") u) ∧ i ≤ x.cps.size ∧ n = x.cps.size + 1 - i ∧ s.toks ≤ tk) ?_ (x.cps.size + 1)
    ⟨_, _, _, 0, _, rfl, ⟨_, Heap.get?_push_size _ rfl, rfl, rfl⟩, F₁.push _, by simp; rfl, ?_, rfl, Nat.zero_le _, rfl, by omega⟩
  case refine_2 => show s.toks + _ ≠ 0; omega
  rintro n s' ⟨H, tk, m', i, ct, rfl, hit, F, hc, hct, hb, hi, rfl, htk⟩
  have hIL : h₁.objs.size ≠ L' := Nat.ne_of_gt hLh
  cases hcx : x.cps[i]? with
  | none =>
    have hsz : i = x.cps.size := Nat.le_antisymm hi (by simpa using hcx)
    refine pyNext_str_end rfl hit hcx fun h₂ he₂ => wpAny_execs_nil ?_
    dsimp only
    have F₂ := fr_at F he₂ hIL hnew
    refine wpAny_execs_cons (wpAny_Return_some (ld F₂ hc ?_))
    dsimp only
    refine ⟨_, rfl, ⟨ct, hct, ?_⟩, ⟨h₂, tk, rfl, htk, F₂.keep⟩⟩
    rw [hsz, List.take_of_length_le (by simp)]
  | some c =>
    have hlt : i < x.cps.size := (Array.getElem?_eq_some_iff.mp hcx).1
    refine pyNext_str_item hit hcx fun h₂ hit₂ hs₂ => ?_
    dsimp only at hs₂ ⊢
    have F₂ := fr_at F hs₂.extBut hIL hnew
    refine wpAny_of_eq rfl (wpAny_assign_Name (stS F₂ fun h₃ F₃ hs₃ => ?_))
    dsimp only at hs₃ ⊢
    have NB₃ : NoneBooked h₃ := booked_keeps NB F₃.keep
    have hit₃ : h₃.IsStrIter h₁.objs.size (strIterType x) x t (i + 1) := hit₂.extBut hs₃.extBut hIL
    have tc := take_count x.cps.toList i c (by simpa using hcx)
    refine wpAny_execs_cons (wpAny_If (tick_test F₃ rfl hb (show (tk : Nat) ≠ 0 by omega) (show (u : Nat) ≠ 0 by omega) (show (tk : Nat) ≠ u by omega) NB₃ ?_))
    by_cases hc39 : c = 39
    · rw [if_pos (by simpa using hc39)]
      refine wpAny_execs_cons (wpAny_AugAssign_Name (ldn F₃ hc (wpAny_Constant_int (iadd_int (stS F₃ fun h₄ F₄ hs₄ => ?_)))))
      dsimp only at hs₄ ⊢
      refine wpAny_execs_nil (wpAny_execs_nil ?_)
      dsimp only
      refine ⟨x.cps.size + 1 - (i + 1), by omega, h₄, tk + 5, _, i + 1, tk + 3, rfl, hit₃.extBut hs₄.extBut hIL, F₄, ?_, ?_, hb, hlt, rfl, ?_⟩
      · rw [tc, if_pos hc39]
        rfl
      · show (tk + 3 : Nat) ≠ 0
        omega
      · omega
    · rw [if_neg (by simpa using hc39)]
      refine wpAny_execs_nil (wpAny_execs_nil ?_)
      dsimp only
      refine ⟨x.cps.size + 1 - (i + 1), by omega, h₃, tk + 2, _, i + 1, ct, rfl, hit₃, F₃, ?_, hct, hb, hlt, rfl, ?_⟩
      · rw [tc, if_neg hc39]
        exact hc
      · omega
end Mine

end PartB2
section PartB3
open PySem PySem.W PyProof.Rows PySem.Calls PySem.Spec
namespace Mine

section
variable {prog : Program} {w : World} {A : Around} {E : Value → Shared → Prop} {s : Shared}

theorem nextOf_str_item {it : Addr} {x : Str} {t : Tok} {i c : Nat} {Q : Value → Shared → Prop} (hit : s.heap.IsStrIter it (strIterType x) x t i) (hx : x.cps[i]? = some c)
    (hQ : ∀ h', h'.IsStrIter it (strIterType x) x t (i + 1) → Heap.SameBut it s.heap h' → Q (.str ⟨#[c]⟩ s.toks) { s with heap := h', toks := s.toks + 1 }) :
    wpAny (model prog w) A (Builtin.SmallTypes.nextOf (.ref it)) Q E s := by
  cases ha : x.cps.all (· < 128)
  · have e : strIterType x = "str_iterator" := by simp [strIterType, ha]
    rw [e] at hit hQ
    exact wpAny_nextOf_wide_item hit hx hQ
  · have e : strIterType x = "str_ascii_iterator" := by simp [strIterType, ha]
    rw [e] at hit hQ
    exact wpAny_nextOf_ascii_item hit hx hQ
/-- one turn of an enumerate over a text: the pair, its tokens told -/
theorem enum_str_item {e it : Addr} {x : Str} {t : Tok} {i c : Nat} {old : Value} {Q : Option Value → Shared → Prop}
    (he : IsEnum s.heap e it (i : Int) old) (hit : s.heap.IsStrIter it (strIterType x) x t i) (hx : x.cps[i]? = some c) (hne : e ≠ it)
    (hQ : ∀ h', IsEnumOut h' e it ((i : Int) + 1) (.str ⟨#[c]⟩ s.toks) s.heap.objs.size → h'.IsStrIter it (strIterType x) x t (i + 1) →
      h'.get? s.heap.objs.size = some { cls := .type "tuple", data := .seq #[.int i (s.toks + 1), .str ⟨#[c]⟩ s.toks] } → h'.objs.size = s.heap.objs.size + 1 →
      (∀ b o, b ≠ e → b ≠ it → s.heap.get? b = some o → h'.get? b = some o) → Q (some (.ref s.heap.objs.size)) { s with heap := h', toks := s.toks + 2 }) :
    wpAny (model prog w) A (pyNext (.ref e)) Q E s := by
  have hT : s.TypeIs (.ref e) "enumerate" := ⟨_, he, rfl⟩
  unfold pyNext
  refine wpAny_bind (wpAny_attempt (wpAny_callSpecial?_slot (name := Str.ofString "__next__") hT F.slot_enumerate_next
    (wpAny_call_entry F.slot_enumerate_next hT F.entry_enumerate_next ?_ (F.args_enumerate_next_1 _))))
  obtain ⟨hp, g, d, tk, os⟩ := s
  have hel : e < hp.objs.size := Heap.lt_size he
  show wpAny _ _ (field (.ref e) 2 >>= _) _ _ _
  refine wpAny_bind (wpAny_field he rfl (x := .ref it) rfl ?_)
  refine wpAny_bind (nextOf_str_item hit hx fun h₁ it₁ b₁ => ?_)
  replace b₁ : Heap.SameBut it hp h₁ := b₁
  have e₁ : IsEnum h₁ e it i old := (b₁.2 e hne).trans he
  show wpAny _ _ (field (.ref e) 3 >>= _) _ _ ⟨h₁, g, d, tk + 1, os⟩
  refine wpAny_bind (wpAny_field e₁ rfl (x := rawInt i) rfl ?_)
  show wpAny _ _ (field (.ref e) 4 >>= _) _ _ ⟨h₁, g, d, tk + 1, os⟩
  refine wpAny_bind (wpAny_field e₁ rfl (x := .none) rfl ?_)
  show wpAny _ _ (mkInt i >>= _) _ _ ⟨h₁, g, d, tk + 1, os⟩
  refine wpAny_bind (wpAny_mkInt ?_)
  show wpAny _ _ (setField (.ref e) 3 (rawInt ((i : Int) + 1)) >>= _) _ _ ⟨h₁, g, d, tk + 2, os⟩
  refine wpAny_bind (wpAny_setField_rec e₁ (by simp) fun h₂ e₂ b₂ => ?_)
  replace b₂ : Heap.SameBut e h₁ h₂ := b₂
  replace e₂ : IsEnum h₂ e it ((i : Int) + 1) old := e₂
  show wpAny _ _ (setField (.ref e) 4 .none >>= _) _ _ ⟨h₂, g, d, tk + 2, os⟩
  refine wpAny_bind (wpAny_setField_rec e₂ (by simp) fun h₃ e₃ b₃ => ?_)
  replace b₃ : Heap.SameBut e h₂ h₃ := b₃
  replace e₃ : IsEnum h₃ e it ((i : Int) + 1) old := e₃
  have z₃ : h₃.objs.size = hp.objs.size := by rw [b₃.1, b₂.1, b₁.1]
  have it₃ : h₃.IsStrIter it (strIterType x) x t (i + 1) := (it₁.extBut b₂.extBut (Ne.symm hne)).extBut b₃.extBut (Ne.symm hne)
  have k₃ : ∀ b o, b ≠ e → b ≠ it → hp.get? b = some o → h₃.get? b = some o := fun b o n1 n2 q => b₃.extBut b o n1 (b₂.extBut b o n1 (b₁.extBut b o n2 q))
  clear e₂ b₂ e₁ b₁ b₃ it₁ hit
  show wpAny _ _ (newTuple [.int i (tk + 1), .str ⟨#[c]⟩ tk] >>= _) _ _ ⟨h₃, g, d, tk + 2, os⟩
  refine wpAny_bind (wpAny_newTuple ?_)
  obtain ⟨o₃, ho₃, r₃⟩ := it₃
  have e₄ := Heap.get?_push_of_some { cls := .type "tuple", data := .seq #[.int i (tk + 1), .str ⟨#[c]⟩ tk] } e₃
  have i₄ := Heap.get?_push_of_some { cls := .type "tuple", data := .seq #[.int i (tk + 1), .str ⟨#[c]⟩ tk] } ho₃
  have t₄ : (h₃.push { cls := .type "tuple", data := .seq #[.int i (tk + 1), .str ⟨#[c]⟩ tk] }).get? hp.objs.size = some { cls := .type "tuple", data := .seq #[.int i (tk + 1), .str ⟨#[c]⟩ tk] } := z₃ ▸ Heap.get?_push_size _ rfl
  have z₄ : (h₃.push { cls := .type "tuple", data := .seq #[.int i (tk + 1), .str ⟨#[c]⟩ tk] }).objs.size = hp.objs.size + 1 := by rw [Heap.size_push, z₃]
  have k₄ : ∀ b o, b ≠ e → b ≠ it → hp.get? b = some o → (h₃.push { cls := .type "tuple", data := .seq #[.int i (tk + 1), .str ⟨#[c]⟩ tk] }).get? b = some o := fun b o n1 n2 q => Heap.get?_push_of_some _ (k₃ b o n1 n2 q)
  rw [z₃]
  generalize h₃.push { cls := .type "tuple", data := .seq #[.int i (tk + 1), .str ⟨#[c]⟩ tk] } = h₄ at e₄ i₄ t₄ z₄ k₄
  show wpAny _ _ (Builtin.SmallTypes.ownedTupleIsFree (.ref e) >>= _) _ _ ⟨h₄, g, d, tk + 2, os⟩
  refine wpAny_bind ?_
  unfold Builtin.SmallTypes.ownedTupleIsFree
  refine wpAny_bind (wpAny_field e₄ rfl (x := .none) rfl (wpAny_pure ?_))
  rw [if_pos rfl]
  refine wpAny_bind (wpAny_rule (wpAny_bind (wpAny_field e₄ rfl (x := old) rfl (wpAny_bind (wpAny_setField_rec e₄ (by simp) fun h₅ e₅ b₅ => ?_)))))
  replace b₅ : Heap.SameBut e h₄ h₅ := b₅
  replace e₅ : IsEnum h₅ e it ((i : Int) + 1) (.str ⟨#[c]⟩ tk) := e₅
  show wpAny _ _ (Builtin.SmallTypes.ownedTupleHandOut (.ref e) (.ref hp.objs.size) >>= _) _ _ ⟨h₅, g, d, tk + 2, os⟩
  refine wpAny_bind ?_
  unfold Builtin.SmallTypes.ownedTupleHandOut
  refine wpAny_bind (wpAny_setField_rec e₅ (by simp) fun h₆ e₆ b₆ => ?_)
  replace b₆ : Heap.SameBut e h₅ h₆ := b₆
  replace e₆ : IsEnumOut h₆ e it ((i : Int) + 1) (.str ⟨#[c]⟩ tk) hp.objs.size := e₆
  refine wpAny_setField_rec e₆ (by simp) fun h₇ e₇ b₇ => ?_
  replace b₇ : Heap.SameBut e h₆ h₇ := b₇
  have up : ∀ b o, b ≠ e → h₄.get? b = some o → h₇.get? b = some o := fun b o n q => b₇.extBut b o n (b₆.extBut b o n (b₅.extBut b o n q))
  refine wpAny_bind (wpAny_letGo (wpAny_pure ⟨_, rfl, wpAny_pure (hQ h₇ e₇ ⟨o₃, up it o₃ (Ne.symm hne) i₄, r₃⟩ (up _ _ (Nat.ne_of_gt hel) t₄) ?_ fun b o n1 n2 q => up b o n1 (k₄ b o n1 n2 q))⟩))
  show h₇.objs.size = hp.objs.size + 1
  rw [b₇.1, b₆.1, b₅.1, z₄]

theorem enum_str_end {e it : Addr} {x : Str} {t : Tok} {i : Int} {old : Value} {Q : Option Value → Shared → Prop} (hh : A.handled = none)
    (he : IsEnum s.heap e it i old) (hit : s.heap.IsStrIter it (strIterType x) x t x.cps.size) (hQ : ∀ h', Heap.ExtBut it s.heap h' → Q none { s with heap := h' }) : wpAny (model prog w) A (pyNext (.ref e)) Q E s := by
  cases ha : x.cps.all (· < 128)
  · rw [show strIterType x = "str_iterator" by simp [strIterType, ha]] at hit
    exact wpAny_pyNext_enum_endD (St := fun j h => h.IsStrIter it "str_iterator" x t j) (n := x.cps.size) (Draws.strWide (A := A.in1) hh it x t) he hit hQ
  · rw [show strIterType x = "str_ascii_iterator" by simp [strIterType, ha]] at hit
    exact wpAny_pyNext_enum_endD (St := fun j h => h.IsStrIter it "str_ascii_iterator" x t j) (n := x.cps.size) (Draws.strAscii (A := A.in1) hh it x t) he hit hQ
end
end Mine

end PartB3
section PartB4
open PySem PySem.W PyProof.Rows PySem.Calls PySem.Spec
namespace Mine

theorem idx_at (l : List Nat) (i : Nat) (h : 39 ∉ l.take i) (hi : l[i]? = some 39) : l.idxOf 39 = i := by
  have hl : i < l.length := (List.getElem?_eq_some_iff.mp hi).1
  have e : l = l.take i ++ 39 :: l.drop (i + 1) := by
    have := List.take_append_drop i l
    have h2 : l.drop i = 39 :: l.drop (i + 1) := by
      rw [List.drop_eq_getElem_cons hl]
      congr 1
      exact (List.getElem?_eq_some_iff.mp hi).2
    rw [h2] at this
    exact this.symm
  have e2 : l.idxOf 39 = (l.take i ++ 39 :: l.drop (i + 1)).idxOf 39 := congrArg _ e
  rw [e2, List.idxOf_append, if_neg h, List.idxOf_cons_self]
  simp
  omega

theorem not_take (l : List Nat) (i c : Nat) (h : 39 ∉ l.take i) (hi : l[i]? = some c) (hc : c ≠ 39) : 39 ∉ l.take (i + 1) := by
  rw [List.take_add_one, hi]
  intro q
  rcases List.mem_append.mp q with q | q
  · exact h q
  · simp at q
    exact hc q.symm

theorem assign2 {M : Model} {A : Around} {E : Value → Shared → Prop} {s : Shared} {name : Str} {scope : Scope} {L a : Addr} {cd : Value} {h₀ : Heap} {m : Str → Option Value} {xi xv : Str} {pi pv : Pos} {v1 v2 : Value} {Q : Unit → Shared → Prop}
    (F : Fr h₀ L s.heap m) (h : ∀ h', Fr h₀ L h' (fun y => if y = xv then some v2 else if y = xi then some v1 else m y) → Heap.SameBut L s.heap h' → Q () { s with heap := h', toks := s.toks + 2 })
    (hk : scope.kind = .function := by rfl) (hl : (envOf name scope L a cd).kindOf xi = some .local := by rfl) (hl2 : (envOf name scope L a cd).kindOf xv = some .local := by rfl) :
    wpAny M A (assignInOrder ((assignEach [.Name xi pi, .Name xv pv] (envOf name scope L a cd)).map (·.2)) [v1, v2]) Q E s := by
  show wpAny M A (do holding [v2] (assign (.Name xi pi) (envOf name scope L a cd) v1); do holding [] (assign (.Name xv pv) (envOf name scope L a cd) v2); pure ()) Q E s
  refine wpAny_bind (wpAny_holding (wpAny_assign_Name (stS F (fun h₁ F₁ b₁ => ?_) hk hl)))
  refine wpAny_bind (wpAny_holding (wpAny_assign_Name (stS (s := { s with heap := h₁, toks := s.toks + 1 }) F₁ (fun h₂ F₂ b₂ => wpAny_pure ?_) hk hl2)))
  exact h h₂ F₂ (b₁.trans b₂)

set_option maxHeartbeats 4000000 in
theorem idx_spec {w : World} {mean : ExcName → Option Value} {mg mb : Str → Option Value} {dp un : Nat} {gd : Option (List Code)} {outer : List Env} {base : Heap} {s : Shared} {x : Str} {t : Tok} {u : Nat}
    (B : Below (Ar dp un gd outer) base outer s.heap) (X₀ : (KK w).In base) (T₀ : TT mean mg mb base) (hd : dp + 1 < recursionLimit) (hu0 : 0 < u) (hus : u < s.toks) :
    codeAny (model PG w) (Ar dp un gd outer) (.call (.ref 70) ⟨[.str x t, .str (Str.ofString "'") u], []⟩)
      (fun r s' => (39 ∈ x.cps.toList ∧ ∃ t', t' ≠ 0 ∧ r = .ok (.ret (.int (x.cps.toList.idxOf 39 : Nat) t')) ∧ Kp s s') ∨
        (39 ∉ x.cps.toList ∧ ∃ h' tk e t' vs, s' = { s with heap := h', toks := tk } ∧ s.toks ≤ tk ∧ r = .error (.ref e) ∧ RaisedS base s.heap outer e (.type "ValueError") t' vs [] h' ∧ s.heap.UpToSlots h')) s := by
  have X : (KK w).In s.heap := X₀.keeps B.stays
  have T : TT mean mg mb s.heap := T₀.keeps B.stays
  have TR := topRead_of T
  have NB := booked X T
  revert X; dsimp only [PG, KK]; k_fill; intro X
  refine' enter X T ?k6 ?k7 ?k8 ?k9 ?kB ?_ ?c2 ?c3 ?c4 ?c5
  (case k6 => k_is); (case k7 => k_is); (case k8 => ktr_room); (case k9 => exact BindsTo.of_eq rfl); (case c5 => decide); (case kB => exact locs rfl); (case c2 => exact rfl); (case c3 => exact rfl); (case c4 => exact rfl)
  intro L' h' F' N'
  dsimp only
  refine wpAny_execs_cons (wpAny_For (wpAny_Call_ofName (name_B F' X TR (by k_is) (by decide +kernel) (by decide) (callWith_type1 (spliced_more (ld F' rfl (spliced_none (call_enumerate_str fun h₁ he hit hz hk => wpAny_pyIter_enum he ?_))))))))
  dsimp only at he hit hz hk ⊢
  generalize hit0 : h'.objs.size = it at he hit hz ⊢
  have F₁ := fr_keep F' hk
  have hLi : L' < it := hit0 ▸ F'.ns.lt
  have fresh : ∀ b, it ≤ b → s.heap.get? b = none := fun b hb => by
    cases q : s.heap.get? b with
    | none => rfl
    | some o =>
      exact absurd (Heap.lt_size (F'.keep _ _ q)) (Nat.not_lt.mpr (hit0 ▸ hb))
  have ni := fresh it (Nat.le_refl _)
  have ne := fresh (it + 1) (Nat.le_succ _)
  have hLi' : it ≠ L' := Nat.ne_of_gt hLi
  have hLe' : it + 1 ≠ L' := Nat.ne_of_gt (Nat.lt_succ_of_lt hLi)
  have hei : it + 1 ≠ it := Nat.succ_ne_self _
  refine codeAny_forLoop_any
    (fun n s' => ∃ H tk m' i old, s' = { s with heap := H, toks := tk } ∧ IsEnum H (it + 1) it ((i : Nat) : Int) old ∧ H.IsStrIter it (strIterType x) x t i ∧ Fr s.heap L' H m' ∧
      m' (Str.ofString "b") = some (.str (Str.ofString "'") u) ∧ 39 ∉ x.cps.toList.take i ∧ i ≤ x.cps.size ∧ n = x.cps.size + 1 - i ∧ s.toks ≤ tk) ?_ (x.cps.size + 1)
    ⟨h₁, _, _, 0, .none, rfl, he, hit, F₁, rfl, by simp, Nat.zero_le _, rfl, Nat.le_add_right _ _⟩
  rintro n s' ⟨H, tk, m', i, old, rfl, he', hit', F, hb, hno, hi, rfl, htk⟩
  cases hcx : x.cps[i]? with
  | none =>
    have hsz : i = x.cps.size := Nat.le_antisymm hi (by simpa using hcx)
    have hno' : 39 ∉ x.cps.toList := by
      rw [hsz, List.take_of_length_le (by simp)] at hno
      exact hno
    refine enum_str_end rfl he' (hsz ▸ hit') fun h₂ he₂ => ?_
    dsimp only at he₂ ⊢
    have F₂ := fr_at F he₂ hLi' ni
    refine wpAny_passesOwn PassesOwn.leaving (wpAny_execs_cons (wpAny_Raise_call PySem.F.excCall_ValueError PySem.F.excRaise_ValueError rfl rfl (name_B F₂ X TR (by k_is) (by decide +kernel) (by decide) ⟨rfl, evalArgs_plain (spliced_cons ?_)⟩)))
    refine wpAny_Constant_str (k := 0) (pos := default) ?_
    refine spliced_nil ⟨rfl, (show 1 ≤ sizeLine by decide), fun h₃ e hm => ?_⟩
    refine leave_raiseS B hm.of F₂ .nil fun h₄ t' R _ U => ?_
    exact .inr ⟨hno', h₄, tk + 1, e, t', _, rfl, Nat.le_succ_of_le htk, rfl, R, U⟩
  | some c =>
    have hlt : i < x.cps.size := (Array.getElem?_eq_some_iff.mp hcx).1
    refine enum_str_item he' hit' hcx hei fun h₂ heo hit₂ ht₂ hz₂ hk₂ => ?_
    dsimp only at heo hit₂ ht₂ hz₂ hk₂ ⊢
    obtain ⟨oi, hoi, _⟩ := id hit'
    have hLH : L' < H.objs.size := F.ns.lt
    have heH : it + 1 < H.objs.size := Heap.lt_size he'
    have hiH : it < H.objs.size := Heap.lt_size hoi
    have F₂ : Fr s.heap L' h₂ m' := ⟨F.ns.at' fun o q => hk₂ L' o (Ne.symm hLe') (Ne.symm hLi') q, fun b o q => hk₂ b o (by rintro rfl; rw [ne] at q; cases q) (by rintro rfl; rw [ni] at q; cases q) (F.keep b o q), F.above⟩
    refine wpAny_letOwnedTupleGo_enum heo fun h₃ he₃ hs₃ => ?_
    dsimp only at hs₃ ⊢
    have F₃ := fr_at F₂ hs₃.extBut hLe' ne
    have ht₃ : h₃.IsTuple H.objs.size #[.int i (tk + 1), .str ⟨#[c]⟩ tk] := ⟨_, (hs₃.2 _ (Nat.ne_of_gt heH)).trans ht₂, rfl, _, rfl⟩
    have hz₃ : h₃.objs.size = H.objs.size + 1 := hs₃.1.trans hz₂
    have hit₃ : h₃.IsStrIter it (strIterType x) x t (i + 1) := hit₂.extBut hs₃.extBut (Ne.symm hei)
    refine wpAny_assign_Tuple rfl ht₃ rfl rfl fun h₄ hx₄ => ?_
    dsimp only at hx₄ ⊢
    have n₄ : s.heap.get? h₃.objs.size = none := by
      rw [hz₃]
      exact fresh _ (Nat.le_trans (Nat.le_of_lt hiH) (Nat.le_succ _))
    have F₄ := fr_at F₃ hx₄ (by rw [hz₃]; exact Nat.ne_of_gt (Nat.lt_succ_of_lt hLH)) n₄
    have he₄ : IsEnum h₄ (it + 1) it ((i : Int) + 1) (.str ⟨#[c]⟩ tk) := hx₄ _ _ (by rw [hz₃]; exact Nat.ne_of_lt (Nat.lt_succ_of_lt heH)) he₃
    have hit₄ : h₄.IsStrIter it (strIterType x) x t (i + 1) := hit₃.extBut hx₄ (by rw [hz₃]; exact Nat.ne_of_lt (Nat.lt_succ_of_lt hiH))
    refine assign2 F₄ fun h₅ F₅ hs₅ => ?_
    dsimp only at hs₅ ⊢
    have NB₅ : NoneBooked h₅ := booked_keeps NB F₅.keep
    refine wpAny_execs_cons (wpAny_If (tick_test F₅ rfl hb (show (tk : Nat) ≠ 0 by omega) (show (u : Nat) ≠ 0 by omega) (show (tk : Nat) ≠ u by omega) NB₅ ?_))
    by_cases hc39 : c = 39
    · rw [if_pos (by simpa using hc39)]
      refine wpAny_execs_cons (wpAny_Return_some (ld F₅ rfl ?_))
      dsimp only
      have hc' : x.cps.toList[i]? = some 39 := by simpa [hc39] using hcx
      have ei := idx_at _ _ hno hc'
      refine .inl ⟨?_, tk + 1, Nat.succ_ne_zero _, ?_, h₅, tk + 4, rfl, by omega, F₅.keep⟩
      · exact List.mem_of_getElem? hc'
      · rw [ei]
    · rw [if_neg (by simpa using hc39)]
      refine wpAny_execs_nil (wpAny_execs_nil ?_)
      dsimp only
      refine ⟨x.cps.size + 1 - (i + 1), by omega, h₅, tk + 4, _, i + 1, .str ⟨#[c]⟩ tk, rfl, ?_, hit₄.extBut hs₅.extBut hLi', F₅, hb, not_take _ _ _ hno (by simpa using hcx) hc39, hlt, rfl, by omega⟩
      have e1 : ((i + 1 : Nat) : Int) = (i : Int) + 1 := by push_cast; rfl
      rw [e1]
      exact hs₅.extBut _ _ hLe' he₄
end Mine

end PartB4
section PartP1
open PySem PySem.W PyProof.Rows PySem.Calls PySem.Spec
open PySem.Builtin PySem.Builtin.Str
namespace Mine

/-- the places of the ticks -/
def tks : List Nat → List Nat
  | [] => []
  | a :: l => if a = 39 then 0 :: (tks l).map (· + 1) else (tks l).map (· + 1)

theorem tks_cons (a : Nat) (l : List Nat) : tks (a :: l) = if a = 39 then 0 :: (tks l).map (· + 1) else (tks l).map (· + 1) := rfl
theorem tks_length : ∀ l : List Nat, (tks l).length = l.count 39
  | [] => rfl
  | a :: l => by
    rw [tks_cons]
    by_cases h : a = 39
    · rw [if_pos h, List.length_cons, List.length_map, tks_length l, h, List.count_cons_self]
    · rw [if_neg h, List.length_map, tks_length l, List.count_cons_of_ne (fun q => h q)]

theorem tks_range : ∀ (l : List Nat) (p : Nat) (f : Nat → Option Nat), (∀ i, f (p + i) = l[i]?) →
    (List.range' p (l.length + 1)).filter (fun i => decide (f i = some 39)) = (tks l).map (· + p)
  | [], p, f, h => by
    have := h 0
    simp [tks, List.range'] at this ⊢
    rw [this]
    simp
  | a :: l, p, f, h => by
    have h0 := h 0
    simp only [Nat.add_zero, List.getElem?_cons_zero] at h0
    have ih := tks_range l (p + 1) f (fun i => by rw [Nat.add_assoc, Nat.add_comm 1 i, h (i + 1), List.getElem?_cons_succ])
    rw [List.length_cons, List.range'_succ, List.filter_cons, ih, h0]
    rw [tks_cons]
    have e : (tks l).map (· + (p + 1)) = ((tks l).map (· + 1)).map (· + p) := by
      rw [List.map_map]
      exact List.map_congr_left fun k _ => by simp only [Function.comp]; omega
    by_cases q : a = 39
    · rw [if_pos q, if_pos (by simpa using q), e]
      simp
    · rw [if_neg q, if_neg (by simpa using q), e]

theorem occ_run (x : Str) (limit : Nat) : ∀ (m cur : Nat) (st : Array Nat × Nat), st.snd ≤ cur → st.fst.size ≤ limit →
    (forIn (List.range' cur m) st (StrLaws.occBody x ⟨#[39]⟩ x.length limit)).run.fst.toList = st.fst.toList ++ ((List.range' cur m).filter (fun i => decide (x.cps.toList[i]? = some 39))).take (limit - st.fst.size)
  | 0, cur, st, _, _ => by simp [List.range']
  | m + 1, cur, st, h, hl => by
    rw [List.range'_succ, List.forIn_cons, List.filter_cons]
    have key := StrLaws.subAt_one x 39 cur
    by_cases hc : x.cps.toList[cur]? = some 39
    · rw [if_pos (by simpa using hc)]
      have hk := key.mpr hc
      by_cases hs : st.fst.size < limit
      · have e : StrLaws.occBody x ⟨#[39]⟩ x.length limit cur st = pure (ForInStep.yield (st.fst.push cur, cur + 1)) := by
          unfold StrLaws.occBody
          exact if_pos ⟨⟨⟨hs, h⟩, hk.1⟩, hk.2⟩
        rw [e]
        show (forIn (List.range' (cur + 1) m) (st.fst.push cur, cur + 1) (StrLaws.occBody x ⟨#[39]⟩ x.length limit)).run.fst.toList = _
        rw [occ_run x limit m (cur + 1) _ (Nat.le_refl _) (by show (st.fst.push cur).size ≤ limit; rw [Array.size_push]; omega)]
        show (st.fst.push cur).toList ++ List.take (limit - (st.fst.push cur).size) _ = _
        rw [Array.toList_push, Array.size_push]
        have e2 : limit - st.fst.size = (limit - (st.fst.size + 1)) + 1 := by omega
        rw [e2, List.take_succ_cons, List.append_assoc]
        rfl
      · have e : StrLaws.occBody x ⟨#[39]⟩ x.length limit cur st = pure (ForInStep.yield (st.fst, st.snd)) := by
          unfold StrLaws.occBody
          exact if_neg fun q => hs q.1.1.1
        rw [e]
        show (forIn (List.range' (cur + 1) m) (st.fst, st.snd) (StrLaws.occBody x ⟨#[39]⟩ x.length limit)).run.fst.toList = _
        rw [occ_run x limit m (cur + 1) _ (Nat.le_succ_of_le h) hl]
        have e2 : limit - st.fst.size = 0 := by omega
        show st.fst.toList ++ List.take (limit - st.fst.size) _ = _
        rw [e2]
        simp
    · rw [if_neg (by simpa using hc)]
      have e : StrLaws.occBody x ⟨#[39]⟩ x.length limit cur st = pure (ForInStep.yield (st.fst, st.snd)) := by
        unfold StrLaws.occBody
        exact if_neg fun q => hc (key.mp ⟨q.1.2, q.2⟩)
      rw [e]
      show (forIn (List.range' (cur + 1) m) (st.fst, st.snd) (StrLaws.occBody x ⟨#[39]⟩ x.length limit)).run.fst.toList = _
      exact occ_run x limit m (cur + 1) _ (Nat.le_succ_of_le h) hl

theorem occ_tks (x : Str) (limit : Nat) : occurrences x ⟨#[39]⟩ 0 x.length limit = (tks x.cps.toList).take limit := by
  rw [StrLaws.occ_eq, occ_run x limit _ 0 _ (Nat.le_refl _) (Nat.zero_le _)]
  have e := tks_range x.cps.toList 0 (fun i => x.cps.toList[i]?) (fun i => by rw [Nat.zero_add])
  have el : x.length + 1 - 0 = x.cps.toList.length + 1 := by simp [Str.length]
  rw [el, e]
  simp

theorem tick_is : Str.ofString "'" = ⟨#[39]⟩ := by decide +kernel

/-- ahead of the first tick, and behind it -/
def bef (x : Str) : Str := ⟨(x.cps.toList.take (x.cps.toList.idxOf 39)).toArray⟩
def aft (x : Str) : Str := ⟨(x.cps.toList.drop (x.cps.toList.idxOf 39 + 1)).toArray⟩

theorem idxOf_ne {a : Nat} {l : List Nat} (q : ¬ a = 39) : (a :: l).idxOf 39 = l.idxOf 39 + 1 := by
  rw [List.idxOf_cons]
  have : (a == 39) = false := by simpa using q
  rw [this]
  rfl
theorem tks_head : ∀ l : List Nat, 39 ∈ l → tks l = l.idxOf 39 :: (tks (l.drop (l.idxOf 39 + 1))).map (· + (l.idxOf 39 + 1))
  | [], h => by simp at h
  | a :: l, h => by
    rw [tks_cons]
    by_cases q : a = 39
    · rw [if_pos q, q, List.idxOf_cons_self]
      simp
    · rw [if_neg q]
      have hm : 39 ∈ l := by
        rcases List.mem_cons.mp h with e | e
        · exact absurd e.symm q
        · exact e
      rw [tks_head l hm, idxOf_ne q]
      simp only [List.map_cons, List.map_map, List.drop_succ_cons, List.cons.injEq]
      refine ⟨by simp, ?_⟩
      exact List.map_congr_left fun k _ => by simp only [Function.comp]; omega

theorem mem_of_count {l : List Nat} (h : 0 < l.count 39) : 39 ∈ l := List.count_pos_iff.mp h

theorem count_drop (l : List Nat) (h : 39 ∈ l) : (l.drop (l.idxOf 39 + 1)).count 39 = l.count 39 - 1 := by
  have e := congrArg List.length (tks_head l h)
  rw [tks_length, List.length_cons, List.length_map, tks_length] at e
  omega
theorem count_aft (x : Str) (h : 39 ∈ x.cps.toList) : (aft x).cps.toList.count 39 = x.cps.toList.count 39 - 1 := by
  show ((x.cps.toList.drop (x.cps.toList.idxOf 39 + 1)).toArray.toList).count 39 = _
  rw [List.toList_toArray]
  exact count_drop _ h

theorem kind_tick (x : Str) : decide (Builtin.Str.strKind x < Builtin.Str.strKind ⟨#[39]⟩) = false := by
  have e : Builtin.Str.strKind ⟨#[39]⟩ = 1 := by decide +kernel
  rw [e]
  unfold Builtin.Str.strKind
  split
  · rfl
  · split <;> rfl

theorem tick_len : (⟨#[39]⟩ : Str).length = 1 := rfl
theorem split_length (x : Str) : (Txt.split x (Str.ofString "'")).length = x.cps.toList.count 39 + 1 := by
  rw [tick_is]
  unfold Txt.split
  rw [kind_tick, Bool.or_false, occ_tks]
  have hl : (tks x.cps.toList).length ≤ x.length + 1 := by
    rw [tks_length]
    have := List.count_le_length (a := 39) (l := x.cps.toList)
    simp [Str.length] at this ⊢
    omega
  rw [List.take_of_length_le hl]
  by_cases h : decide (x.length < (⟨#[39]⟩ : Str).length) = true
  · rw [if_pos h]
    have h' : x.length < 1 := of_decide_eq_true h
    have : x.cps.toList = [] := by
      have : x.cps.size = 0 := by simp [Str.length] at h'; simpa using h'
      exact List.eq_nil_of_length_eq_zero (by simpa using this)
    rw [this]
    rfl
  · rw [if_neg h]
    split
    · rename_i q
      have : tks x.cps.toList = [] := by simpa using q
      rw [← tks_length, this]
      rfl
    · rw [length_partsBetween, tks_length]

theorem split2_short (x : Str) (h : x.cps.toList.count 39 < 2) : (Txt.splitMax x (Str.ofString "'") 2).length ≤ 2 := by
  rw [tick_is]
  unfold Txt.splitMax
  split
  · exact Nat.le_succ _
  · split
    · exact Nat.le_succ _
    · rw [length_partsBetween, occ_tks, List.length_take, tks_length]
      omega

theorem strSub_eq (x : Str) (i j : Nat) : strSub x i j = ⟨((x.cps.toList.drop i).take (j - i)).toArray⟩ := by
  refine Str.ext' (Array.toList_inj.mp ?_)
  rw [StrLaws.strSub_toList]

theorem split2_long (x : Str) (h : 2 ≤ x.cps.toList.count 39) : Txt.splitMax x (Str.ofString "'") 2 = [bef x, bef (aft x), aft (aft x)] := by
  have m1 : 39 ∈ x.cps.toList := mem_of_count (by omega)
  have c2 := count_drop _ m1
  have m2 : 39 ∈ x.cps.toList.drop (x.cps.toList.idxOf 39 + 1) := mem_of_count (by omega)
  have ht := tks_head _ m1
  rw [tks_head _ m2] at ht
  have hne : ¬ x.length < 1 := by
    intro q
    have : x.cps.toList = [] := by
      have : x.cps.size = 0 := by simp [Str.length] at q; simpa using q
      exact List.eq_nil_of_length_eq_zero (by simpa using this)
    rw [this] at m1
    simp at m1
  have eo : occurrences x ⟨#[39]⟩ 0 x.length (limitOf x 2) = [x.cps.toList.idxOf 39, (x.cps.toList.drop (x.cps.toList.idxOf 39 + 1)).idxOf 39 + (x.cps.toList.idxOf 39 + 1)] := by
    rw [occ_tks, ht]
    rfl
  rw [tick_is]
  unfold Txt.splitMax
  rw [kind_tick, Bool.or_false, tick_len, if_neg (fun q => hne (of_decide_eq_true q)), eo, if_neg (by simp)]
  unfold partsBetween
  simp only [List.map_cons, List.map_nil, List.zip_cons_cons, List.nil_append, List.cons_append, List.zip_nil_right, List.cons.injEq, and_true]
  have el : x.length = x.cps.toList.length := by simp [Str.length]
  refine ⟨?_, ?_, ?_⟩
  · rw [strSub_eq]
    simp [bef]
  · rw [strSub_eq]
    simp only [bef, aft, List.toList_toArray]
    rw [Nat.add_sub_cancel]
  · rw [strSub_eq]
    simp only [aft, List.toList_toArray, List.drop_drop]
    congr 2
    rw [List.take_of_length_le]
    · congr 1
      omega
    · rw [List.length_drop, el]
      exact Nat.le_refl _

theorem bef_aft (x : Str) (h : 39 ∈ x.cps.toList) : bef x ++ Str.ofString "'" ++ aft x = x := by
  rw [tick_is]
  refine Str.ext' (Array.toList_inj.mp ?_)
  rw [Str.cps_append, Str.cps_append, Array.toList_append, Array.toList_append]
  show x.cps.toList.take _ ++ [39] ++ x.cps.toList.drop _ = _
  have hl : x.cps.toList.idxOf 39 < x.cps.toList.length := List.idxOf_lt_length_of_mem h
  have hd : x.cps.toList.drop (x.cps.toList.idxOf 39) = 39 :: x.cps.toList.drop (x.cps.toList.idxOf 39 + 1) := by
    rw [List.drop_eq_getElem_cons hl]
    congr 1
    exact List.getElem_idxOf hl
  have := List.take_append_drop (x.cps.toList.idxOf 39) x.cps.toList
  rw [hd] at this
  rw [List.append_assoc]
  exact this

theorem aft_length (x : Str) : (aft x).length ≤ x.length := by
  show (x.cps.toList.drop _).toArray.size ≤ x.cps.size
  simp
end Mine

end PartP1
section PartB5
open PySem PySem.W PyProof.Rows PySem.Calls PySem.Spec
namespace Mine

/-- what a call leaves that has met an exception: the frames below may bear other slots -/
def Kx (fs : List Addr) (s s' : Shared) : Prop := ∃ h' tk g', s' = { s with heap := h', toks := tk } ∧ s.toks ≤ tk ∧ KtsTurn fs s.heap g' ∧ ∀ b o, g'.get? b = some o → h'.get? b = some o

theorem Kp.kx {fs : List Addr} {s s' : Shared} (k : Kp s s') : Kx fs s s' := by
  obtain ⟨h, tk, rfl, l, k⟩ := k
  exact ⟨h, tk, s.heap, rfl, l, .refl, k⟩

abbrev frs (outer : List Env) : List Addr := outer.filterMap (·.frame)

set_option maxHeartbeats 4000000 in
theorem first_spec {w : World} {mean : ExcName → Option Value} {mg mb : Str → Option Value} {dp un : Nat} {gd : Option (List Code)} {outer : List Env} {base : Heap} {s : Shared} {x : Str} {t : Tok}
    (B : Below (Ar dp un gd outer) base outer s.heap) (X₀ : (KK w).In base) (T₀ : TT mean mg mb base) (D : KtsDicts (frs outer) s.heap) (hd : dp + 2 < recursionLimit) (hp : 0 < s.toks) :
    codeAny (model PG w) (Ar dp un gd outer) (.call (.ref 77) ⟨[.str x t], []⟩)
      (fun r s' => (39 ∈ x.cps.toList ∧ ∃ t', t' ≠ 0 ∧ r = .ok (.ret (.int (x.cps.toList.idxOf 39 : Nat) t')) ∧ Kp s s') ∨ (39 ∉ x.cps.toList ∧ r = .ok (.ret .none) ∧ Kx (frs outer) s s')) s := by
  have X : (KK w).In s.heap := X₀.keeps B.stays
  have T : TT mean mg mb s.heap := T₀.keeps B.stays
  have TR := topRead_of T
  revert X; dsimp only [PG, KK] at X₀ ⊢; k_fill; intro X
  refine' enter X T ?k6 ?k7 ?k8 ?k9 ?kB ?_ ?c2 ?c3 ?c4 ?c5
  (case k6 => k_is); (case k7 => k_is); (case k8 => ktr_room); (case k9 => exact BindsTo.of_eq rfl); (case c5 => decide); (case kB => exact locs rfl); (case c2 => exact rfl); (case c3 => exact rfl); (case c4 => exact rfl)
  intro L' h' F' N'
  dsimp only
  refine wpAny_execs_cons (wpAny_Try_except (wpAny_execs_cons (wpAny_Return_some (wpAny_Call_ofName (name_K F' X TR (by k_is) (callWith_K X (by k_is) (spliced_more (ld F' rfl (spliced_more ?_)))))))))
  refine wpAny_Constant_str (spliced_none ⟨X.keeps F'.keep, wpAny_call (codeAny_mono (idx_spec (B.push F') X₀ T₀ ?_ ?_ ?_) ?_)⟩)
  · show dp + 1 + 1 < recursionLimit
    omega
  · exact Nat.lt_of_lt_of_le hp (Nat.le_add_right _ _)
  · exact Nat.lt_succ_self _
  rintro r s₁ (⟨h39, t', ht', rfl, K⟩ | ⟨h39, h₁, tk, e, t', vs, rfl, htk, rfl, R, U⟩)
  · dsimp only
    refine .inl ⟨h39, t', ht', rfl, Kp.trans ⟨h', _, rfl, ?_, F'.keep⟩ K⟩
    exact Nat.le_succ_of_le (Nat.le_add_right _ _)
  · dsimp only
    refine caught_S0 (T' := "ValueError") R F' B U X₀ T₀ D KtsTurn.refl (by k_is) PyProof.Rows.Boot.«ValueError» (by decide) PySem.F.isExc_ValueError PySem.F.notTuple_ValueError (by kts_sub) ?_
    intro h₂ g₂ news₂ T₂ F₂ N₂ G₂ N₂' B₂ X₂ Tp₂ D₂
    refine wpAny_execs_cons (wpAny_Return_some (wpAny_Constant_none ?_))
    dsimp only
    refine .inr ⟨h39, rfl, h₂, tk, g₂, rfl, ?_, T₂, F₂.keep⟩
    exact Nat.le_trans (Nat.le_succ_of_le (Nat.le_add_right _ _)) htk
end Mine

end PartB5
section PartB6
open PySem PySem.W PyProof.Rows PySem.Calls PySem.Spec
namespace Mine

abbrev lstOf (vs : List Value) : Obj := { cls := .type "list", data := .seq vs.toArray }
abbrev tupOf (vs : List Value) : Obj := { cls := .type "tuple", data := .seq vs.toArray }

theorem split2_call {prog : Program} {w : World} {A : Around} {E : Value → Shared → Prop} {s : Shared} {x : Str} {t u v : Tok} {Q : Value → Shared → Prop} (hlen : x.length + 2 ≤ sizeLine)
    (short : x.cps.toList.count 39 < 2 → ∀ vs tk, vs.length ≤ 2 → s.toks ≤ tk → Q (.ref s.heap.objs.size) { s with heap := s.heap.push (lstOf vs), toks := tk })
    (long : 2 ≤ x.cps.toList.count 39 → Q (.ref s.heap.objs.size) { s with heap := s.heap.push (lstOf [.str (bef x) s.toks, .str (bef (aft x)) (s.toks + 1), .str (aft (aft x)) (s.toks + 2)]), toks := s.toks + 3 }) :
    wpAny (model prog w) A (call (.builtin "str.split") [.str x t, .str (Str.ofString "'") u, .int 2 v]) Q E s := by
  have hk : (decide ((2 : Int) < -(2 ^ 63 : Int)) || decide ((2 : Int) ≥ 2 ^ 63)) = false := by decide
  have hy : ((Str.ofString "'").length == 0) = false := by decide +kernel
  have hn : (Builtin.Str.partsBetween x (Builtin.Str.occurrences x (Str.ofString "'") 0 x.length (limitOf x 2)) (Str.ofString "'").length).length ≤ sizeLine := by
    have e1 := StrLaws.occ_length_le_len x (Str.ofString "'") 0 x.length (limitOf x 2)
    rw [length_partsBetween]; omega
  have one : Txt.splitMax x (Str.ofString "'") 2 = [x] → Q (.ref s.heap.objs.size) { s with heap := s.heap.push (lstOf [.str x t]) } := by
    intro e
    by_cases hc : x.cps.toList.count 39 < 2
    · exact short hc [.str x t] s.toks (Nat.le_succ _) (Nat.le_refl _)
    · rw [split2_long x (by omega)] at e
      simp at e
  cases h1 : (decide (x.length < (Str.ofString "'").length) || decide (Builtin.Str.strKind x < Builtin.Str.strKind (Str.ofString "'")))
  · cases hf : (Builtin.Str.occurrences x (Str.ofString "'") 0 x.length (limitOf x 2)).isEmpty
    · refine call_meets F.slot_str_split (typeIs_str _ _ _) F.entry_str_split (F.args_str_split_3 _ _ _) (meets_str_split_sep_max x (Str.ofString "'") 2 t u v hk h1 hy hf (by omega) hn) ?_
      have e : Builtin.Str.partsBetween x (Builtin.Str.occurrences x (Str.ofString "'") 0 x.length (limitOf x 2)) (Str.ofString "'").length = Txt.splitMax x (Str.ofString "'") 2 := by
        unfold Txt.splitMax
        rw [h1, if_neg Bool.false_ne_true, hf, if_neg Bool.false_ne_true]
      rw [e]
      by_cases hc : x.cps.toList.count 39 < 2
      · exact short hc _ _ (by rw [strsFrom_length]; exact split2_short x hc) (Nat.le_add_right _ _)
      · rw [split2_long x (by omega)]
        exact long (by omega)
    · refine call_meets F.slot_str_split (typeIs_str _ _ _) F.entry_str_split (F.args_str_split_3 _ _ _) (meets_str_split_max_not_found x (Str.ofString "'") 2 t u v hk h1 hy hf) (one ?_)
      unfold Txt.splitMax
      rw [h1, if_neg Bool.false_ne_true, hf, if_pos rfl]
  · refine call_meets F.slot_str_split (typeIs_str _ _ _) F.entry_str_split (F.args_str_split_3 _ _ _) (meets_str_split_max_cannot_occur x (Str.ofString "'") 2 t u v hk h1) (one ?_)
    unfold Txt.splitMax
    rw [h1, if_pos rfl]

/-- what decode_rfc2231 hands back -/
def Dec (x : Str) (t : Tok) (v : Value) (h h' : Heap) : Prop :=
  ∃ a, v = .ref a ∧ h.get? a = none ∧
    ((x.cps.toList.count 39 < 2 ∧ h'.get? a = some (tupOf [.none, .none, .str x t])) ∨
     (2 ≤ x.cps.toList.count 39 ∧ ∃ ta tb tc : Nat, ta ≠ 0 ∧ tb ≠ 0 ∧ tc ≠ 0 ∧ h'.get? a = some (lstOf [.str (bef x) ta, .str (bef (aft x)) tb, .str (aft (aft x)) tc])))

theorem push_new {h₀ h : Heap} {L : Addr} {m : Str → Option Value} (F : Fr h₀ L h m) : h₀.get? h.objs.size = none := by
  cases q : h₀.get? h.objs.size with
  | none => rfl
  | some o => exact absurd (Heap.lt_size (F.keep _ _ q)) (Nat.lt_irrefl _)

set_option maxHeartbeats 4000000 in
theorem dec_spec {w : World} {mean : ExcName → Option Value} {mg mb : Str → Option Value} {dp un : Nat} {gd : Option (List Code)} {outer : List Env} {s : Shared} {x : Str} {t : Tok}
    (X : (KK w).In s.heap) (T : TT mean mg mb s.heap) (hd : dp + 1 < recursionLimit) (hlen : x.length + 2 ≤ sizeLine) (hp : 0 < s.toks) :
    codeAny (model PG w) (Ar dp un gd outer) (.call (.ref 21) ⟨[.str x t], []⟩) (fun r s' => ∃ v, r = .ok (.ret v) ∧ Dec x t v s.heap s'.heap ∧ Kp s s') s := by
  have TR := topRead_of T
  revert X; dsimp only [PG, KK]; k_fill; intro X
  refine' enter X T ?k6 ?k7 ?k8 ?k9 ?kB ?_ ?c2 ?c3 ?c4 ?c5
  (case k6 => k_is); (case k7 => k_is); (case k8 => ktr_room); (case k9 => exact BindsTo.of_eq rfl); (case c5 => decide); (case kB => exact locs rfl); (case c2 => exact rfl); (case c3 => exact rfl); (case c4 => exact rfl)
  intro L' h' F' N'
  dsimp only
  refine wpAny_execs_cons (wpAny_Assign_Name (MethodCall_ (ld F' rfl (GM.split (callWith_method1 (spliced_more (name_K F' X TR (by k_is) (spliced_more (wpAny_Constant_int (spliced_none ?_))))))))))
  show wpAny _ _ (call (.builtin "str.split") [.str x t, .str (Str.ofString "'") 189, .int 2 _]) _ _ _
  have nL : h'.objs.size ≠ L' := Nat.ne_of_gt F'.ns.lt
  refine split2_call hlen (fun hc vs tk hv htk => ?_) fun hc => ?_
  · refine stS (F'.push _) fun h₁ F₁ b₁ => ?_
    dsimp only at b₁ F₁ htk ⊢
    have hl : h₁.get? h'.objs.size = some (lstOf vs) := b₁.extBut _ _ nL (Heap.get?_push_size _ rfl)
    refine wpAny_execs_cons (wpAny_If (wpAny_isTrue_Compare1 (wpAny_Call_ofName (name_B F₁ X TR (by k_is) (by decide +kernel) (by decide) (PyProof.Rows.callWith_builtin1 (spliced_more (ld F₁ rfl (spliced_none (call_len_list (items := vs.toArray) ⟨_, hl, rfl, _, rfl⟩ ?_ (wpAny_Constant_int (le_int (wpAny_truthy_bool ?_))))))))))))
    · rw [List.size_toArray]
      omega
    · rw [if_pos (by simp only [List.size_toArray]; exact decide_eq_true (by omega))]
      refine wpAny_execs_cons (wpAny_Return_some (Tuple_ (spliced_more (wpAny_Constant_none (spliced_more (wpAny_Constant_none (spliced_more (ld F₁ rfl (spliced_none (newTuple_N F₁ .nil fun h₂ F₂ N₂ => ?_)))))))))) 
      dsimp only
      refine ⟨_, rfl, ⟨_, rfl, push_new F₁, .inl ⟨hc, N₂.get (.head _)⟩⟩, h₂, _, rfl, ?_, F₂.keep⟩
      omega
  · refine stS (F'.push _) fun h₁ F₁ b₁ => ?_
    dsimp only at b₁ F₁ ⊢
    have hl := b₁.extBut _ _ nL (Heap.get?_push_size _ rfl)
    refine wpAny_execs_cons (wpAny_If (wpAny_isTrue_Compare1 (wpAny_Call_ofName (name_B F₁ X TR (by k_is) (by decide +kernel) (by decide) (PyProof.Rows.callWith_builtin1 (spliced_more (ld F₁ rfl (spliced_none (call_len_list (items := #[_, _, _]) ⟨_, hl, rfl, _, rfl⟩ ?_ (wpAny_Constant_int (le_int (wpAny_truthy_bool ?_))))))))))))
    · show (3 : Int) < 2 ^ 63
      decide
    · rw [if_neg (by simp)]
      refine wpAny_execs_nil (wpAny_execs_cons (wpAny_Return_some (ld F₁ rfl ?_)))
      dsimp only
      refine ⟨_, rfl, ⟨_, rfl, push_new F', .inr ⟨hc, _, _, _, ?_, ?_, ?_, hl⟩⟩, h₁, _, rfl, ?_, F₁.keep⟩
      all_goals omega
end Mine

end PartB6
section PartH1
open PySem PySem.W PyProof.Rows PySem.Calls PySem.Spec
namespace Mine
theorem lk_str_getitem : typeLookup (.type "str") "__getitem__" = pure (some (.builtin "str.__getitem__")) := by rw [typeLookup_type, builtinLookup_eq_fast]; kernel_rfl
theorem ty_str_getitem : typeOf (.builtin "str.__getitem__") = pure (.type "wrapper_descriptor") := by show builtinType _ = _; rw [builtinType_eq_fast]; kernel_rfl
theorem slot_wd_get : Slot "wrapper_descriptor" "__get__" "wrapper_descriptor.__get__" :=
  .of (owner := "wrapper_descriptor") (n := "__get__") (by rw [typeLookup_type, builtinLookup_eq_fast]; kernel_rfl) (by decide +kernel) (by decide +kernel) (by decide +kernel)
    (by first | exact .inl (by decide +kernel) | exact .inr (by decide +kernel)) (by rw [isSubtype_type]; kernel_rfl)
theorem wd_set : typeLookup (.type "wrapper_descriptor") "__set__" = pure none := by rw [typeLookup_type, builtinLookup_eq_fast]; kernel_rfl
theorem wd_delete : typeLookup (.type "wrapper_descriptor") "__delete__" = pure none := by rw [typeLookup_type, builtinLookup_eq_fast]; kernel_rfl
theorem entry_wd_get : entryFor table "wrapper_descriptor.__get__" = some Builtin.«wrapper_descriptor.__get__» := entryFor_of_tree (by kernel_rfl)
theorem args_wd_get (a b c : Value) : argsOk "wrapper_descriptor.__get__" ⟨[a, b, c], []⟩ := by unfold argsOk; kernel_rfl
theorem owner_str_getitem : (".".intercalate ("str.__getitem__".cutAt '.').dropLast) = "str" := by
  have e0 : "str.__getitem__".cutAt '.' = ["str", "__getitem__"] := by first | rfl | decide +kernel
  rw [e0]; decide +kernel
theorem sub_str_getitem_owner : isSubtype (.type "str") (.type (".".intercalate ("str.__getitem__".cutAt '.').dropLast)) = pure true := by
  rw [owner_str_getitem, isSubtype_type]; kernel_rfl
theorem entry_hasattr : entryFor table "hasattr" = some Builtin.«hasattr» := entryFor_of_tree (by kernel_rfl)
theorem kind_hasattr : builtinKind "hasattr" = none := by decide +kernel
theorem plain_hasattr : plainId "hasattr" = true := by decide +kernel
theorem args_hasattr (a b : Value) : argsOk "hasattr" ⟨[a, b], []⟩ := by unfold argsOk; kernel_rfl

section
variable {prog : Program} {w : World} {A : Around} {E : Value → Shared → Prop} {h : Heap} {g : Array GenState} {d : Drawn} {t : Nat} {os : OsState} {x : Str} {u : Tok}

theorem wd_get_str {R : Result → Shared → Prop} (hq : R (.ok (.ret (.ref h.objs.size))) ⟨h.push { cls := .type "method-wrapper", data := .fields #[.builtin "str.__getitem__", .str x u] }, g, d, t, os⟩) :
    codeAny (model prog w) A (.call (.builtin "wrapper_descriptor.__get__") ⟨[.builtin "str.__getitem__", .str x u, .type "str"], []⟩) R ⟨h, g, d, t, os⟩ := by
  have hT : (⟨h, g, d, t, os⟩ : Shared).TypeIs (.str x u) "str" := rfl
  have hT5 : (⟨h, g, d, t, os⟩ : Shared).TypeIs (.builtin "str.__getitem__") "wrapper_descriptor" := ty_str_getitem
  have f8 := sub_str_getitem_owner
  refine codeAny_call_builtin slot_wd_get.plain entry_wd_get (slot_wd_get.check _ _ _ _ _ _ _ _ hT5 (args_wd_get _ _ _) ?_)
  repeat (any_goals (first | assumption | wp_step))

theorem getitem_entry_str {tk : Tok} {Q : PySem.Fin → Shared → Prop} (hq : Q (.done (.ret (.ref h.objs.size))) ⟨h.push { cls := .type "method-wrapper", data := .fields #[.builtin "str.__getitem__", .str x u] }, g, d, t, os⟩) :
    wpAny (model prog w) A (Builtin.«object.__getattribute__» ⟨[.str x u, .str "__getitem__" tk], []⟩) Q E ⟨h, g, d, t, os⟩ := by
  have hT : (⟨h, g, d, t, os⟩ : Shared).TypeIs (.str x u) "str" := rfl
  have hT5 : (⟨h, g, d, t, os⟩ : Shared).TypeIs (.builtin "str.__getitem__") "wrapper_descriptor" := ty_str_getitem
  have f4 := lk_str_getitem
  have f5 := ty_str_getitem
  have f6 := slot_wd_get.lookup
  have f7 := wd_set
  have f8 := wd_delete
  repeat (any_goals (first | assumption | wp_step))
  refine wd_get_str ?_
  repeat (any_goals (first | assumption | wp_step))

theorem getitem_by_str {tk : Tok} {Q : Value → Shared → Prop} (hq : Q (.ref h.objs.size) ⟨h.push { cls := .type "method-wrapper", data := .fields #[.builtin "str.__getitem__", .str x u] }, g, d, t, os⟩) :
    wpAny (model prog w) A (getAttrBy (.str x u) (.str "__getitem__" tk) false) Q E ⟨h, g, d, t, os⟩ := by
  have hT : (⟨h, g, d, t, os⟩ : Shared).TypeIs (.str x u) "str" := rfl
  have f2 := F.slot_str_getattribute.lookup
  have f3 := F.slot_str_getattribute.bind (.str x u)
  repeat (any_goals (first | assumption | wp_step))
  refine codeAny_call_builtin F.slot_str_getattribute.plain F.entry_object_getattribute (F.slot_str_getattribute.check _ _ _ _ _ _ _ _ (show (⟨h, g, d, t, os⟩ : Shared).TypeIs (.str x u) "str" from rfl) (F.args_object_getattribute_2 _ _) (getitem_entry_str ?_))
  repeat (any_goals (first | assumption | wp_step))

theorem hasattr_entry {tk : Tok} {Q : PySem.Fin → Shared → Prop} (hq : Q (.done (.ret (.bool true))) ⟨h.push { cls := .type "method-wrapper", data := .fields #[.builtin "str.__getitem__", .str x u] }, g, d, t, os⟩) :
    wpAny (model prog w) A (Builtin.«hasattr» ⟨[.str x u, .str "__getitem__" tk], []⟩) Q E ⟨h, g, d, t, os⟩ := by
  have hT : (⟨h, g, d, t, os⟩ : Shared).TypeIs (.str x u) "str" := rfl
  have f2 := F.slot_str_getattribute.lookup
  have f4 := lk_str_getitem
  unfold Builtin.«hasattr»
  refine wpAny_bind (m := someArgs "hasattr" 2 2 _) (wpAny_pure ?_)
  dsimp only
  refine wpAny_bind (wpAny_pure ?_)
  rw [if_neg (show ¬ ((Value.str x u == Value.builtin "__main__.__loader__#opaque") = true) from Bool.false_ne_true)]
  refine wpAny_bind (m := typeOf (.str x u)) (wpAny_pure ?_)
  dsimp only
  refine wpAny_bind (m := asStr? _) (wpAny_pure ?_)
  dsimp only
  refine wpAny_bind (wpAny_of_eq lk_str_getitem ?_)
  dsimp only
  refine wpAny_bind (wpAny_of_eq f2 ?_)
  have hw : (withoutEnding? "str.__getitem__" "#data").isSome = false := by decide +kernel
  rw [hw]
  rw [if_neg (by simp)]
  refine wpAny_bind (wpAny_pure ?_)
  rw [if_neg (by decide)]
  refine wpAny_bind ?_
  unfold getAttrBy?
  refine wpAny_bind (wpAny_attempt (getitem_by_str ?_))
  refine wpAny_pure ?_
  rw [if_neg (by simp)]
  exact wpAny_pure hq
end

theorem hasattr_str {prog : Program} {w : World} {A : Around} {E : Value → Shared → Prop} {s : Shared} {x : Str} {u tk : Tok} {Q : Value → Shared → Prop}
    (h : Q (.bool true) { s with heap := s.heap.push { cls := .type "method-wrapper", data := .fields #[.builtin "str.__getitem__", .str x u] } }) :
    wpAny (model prog w) A (call (.builtin "hasattr") [.str x u, .str (Str.ofString "__getitem__") tk]) Q E s :=
  Calls.call_function_entry kind_hasattr plain_hasattr entry_hasattr (args_hasattr _ _) (by obtain ⟨hp, g, d, t, os⟩ := s; exact hasattr_entry ⟨_, rfl, h⟩)
end Mine

end PartH1
section PartB7
open PySem PySem.W PyProof.Rows PySem.Calls PySem.Spec
namespace Mine

section
variable {w : World} {mean : ExcName → Option Value} {mg mb : Str → Option Value} {dp un : Nat} {gd : Option (List Code)} {outer : List Env} {s : Shared}

set_option maxHeartbeats 4000000 in
theorem add_spec {i j : Int} {t u : Tok} (X : (KK w).In s.heap) (T : TT mean mg mb s.heap) (hd : dp + 1 < recursionLimit) (hp : 0 < s.toks) :
    codeAny (model PG w) (Ar dp un gd outer) (.call (.ref 35) ⟨[.int i t, .int j u], []⟩) (fun r s' => ∃ t', t' ≠ 0 ∧ r = .ok (.ret (.int (i + j) t')) ∧ Kp s s') s := by
  revert X; dsimp only [PG, KK]; k_fill; intro X
  refine' enter X T ?k6 ?k7 ?k8 ?k9 ?kB ?_ ?c2 ?c3 ?c4 ?c5
  (case k6 => k_is); (case k7 => k_is); (case k8 => ktr_room); (case k9 => exact BindsTo.of_eq rfl); (case c5 => decide); (case kB => exact locs rfl); (case c2 => exact rfl); (case c3 => exact rfl); (case c4 => exact rfl)
  intro L' h' F' N'
  dsimp only
  refine wpAny_execs_cons (wpAny_Return_some (wpAny_BinOp (ld F' rfl (ld F' rfl (add_int ?_)))))
  dsimp only
  refine ⟨_, ?_, rfl, h', _, rfl, ?_, F'.keep⟩
  · show (s.toks + 2 : Nat) ≠ 0
    omega
  · show s.toks ≤ s.toks + 2 + 1
    omega

set_option maxHeartbeats 4000000 in
theorem lt_spec {i j : Int} {t u : Tok} (X : (KK w).In s.heap) (T : TT mean mg mb s.heap) (hd : dp + 1 < recursionLimit) :
    codeAny (model PG w) (Ar dp un gd outer) (.call (.ref 28) ⟨[.int i t, .int j u], []⟩) (fun r s' => r = .ok (.ret (.bool (decide (i < j)))) ∧ Kp s s') s := by
  revert X; dsimp only [PG, KK]; k_fill; intro X
  refine' enter X T ?k6 ?k7 ?k8 ?k9 ?kB ?_ ?c2 ?c3 ?c4 ?c5
  (case k6 => k_is); (case k7 => k_is); (case k8 => ktr_room); (case k9 => exact BindsTo.of_eq rfl); (case c5 => decide); (case kB => exact locs rfl); (case c2 => exact rfl); (case c3 => exact rfl); (case c4 => exact rfl)
  intro L' h' F' N'
  dsimp only
  refine wpAny_execs_cons (wpAny_Return_some (wpAny_Compare1 (ld F' rfl (ld F' rfl (lt_int ?_)))))
  dsimp only
  exact ⟨rfl, h', _, rfl, Nat.le_add_right _ _, F'.keep⟩

set_option maxHeartbeats 4000000 in
theorem fdiv_spec {i j : Int} {t u : Tok} (X : (KK w).In s.heap) (T : TT mean mg mb s.heap) (hd : dp + 1 < recursionLimit) (hj : j ≠ 0) (hj2 : j.natAbs < 1073741824) :
    codeAny (model PG w) (Ar dp un gd outer) (.call (.ref 42) ⟨[.int i t, .int j u], []⟩) (fun r s' => ∃ t', t' ≠ 0 ∧ r = .ok (.ret (.int (i.fdiv j) t')) ∧ Kp s s') s := by
  revert X; dsimp only [PG, KK]; k_fill; intro X
  refine' enter X T ?k6 ?k7 ?k8 ?k9 ?kB ?_ ?c2 ?c3 ?c4 ?c5
  (case k6 => k_is); (case k7 => k_is); (case k8 => ktr_room); (case k9 => exact BindsTo.of_eq rfl); (case c5 => decide); (case kB => exact locs rfl); (case c2 => exact rfl); (case c3 => exact rfl); (case c4 => exact rfl)
  intro L' h' F' N'
  dsimp only
  refine wpAny_execs_cons (wpAny_Return_some (wpAny_BinOp (ld F' rfl (ld F' rfl (floordiv_int hj ?_ (.inl (PyProof.noPylong_small hj2)))))))
  dsimp only
  refine ⟨_, ?_, rfl, h', _, rfl, ?_, F'.keep⟩
  · show (s.toks + 2 : Nat) ≠ 0
    omega
  · show s.toks ≤ s.toks + 2 + 1
    omega

set_option maxHeartbeats 4000000 in
theorem item_spec {x : Str} {i c : Nat} {t u : Tok} (X : (KK w).In s.heap) (T : TT mean mg mb s.heap) (hd : dp + 1 < recursionLimit) (hx : x.cps[i]? = some c) (hlen : x.length ≤ sizeLine) :
    codeAny (model PG w) (Ar dp un gd outer) (.call (.ref 63) ⟨[.str x t, .int i u], []⟩) (fun r s' => ∃ t', r = .ok (.ret (.str ⟨#[c]⟩ t')) ∧ Kp s s') s := by
  have hlt : i < x.length := (Array.getElem?_eq_some_iff.mp hx).1
  have hsl : sizeLine = 16777216 := by decide
  revert X; dsimp only [PG, KK]; k_fill; intro X
  refine' enter X T ?k6 ?k7 ?k8 ?k9 ?kB ?_ ?c2 ?c3 ?c4 ?c5
  (case k6 => k_is); (case k7 => k_is); (case k8 => ktr_room); (case k9 => exact BindsTo.of_eq rfl); (case c5 => decide); (case kB => exact locs rfl); (case c2 => exact rfl); (case c3 => exact rfl); (case c4 => exact rfl)
  intro L' h' F' N'
  dsimp only
  refine wpAny_execs_cons (wpAny_Return_some (Subscript_ (ld F' rfl (ld F' rfl (item_str ?_ ?_ ?_ ?_)))))
  · unfold fitsSsize
    simp
    omega
  · omega
  · omega
  · intro _
    have e : Txt.item x (i : Int) = ⟨#[c]⟩ := by
      unfold Txt.item Txt.charAt
      have := StrLaws.at_nonneg (x := x) (i := (i : Int)) (n := c) (by omega) (by simpa using hx)
      rw [this]
      rfl
    rw [e]
    dsimp only
    refine ⟨_, rfl, h', _, rfl, ?_, F'.keep⟩
    show s.toks ≤ s.toks + 2 + 1
    omega

set_option maxHeartbeats 4000000 in
theorem cat_spec {x y : Str} {t u : Tok} (X : (KK w).In s.heap) (T : TT mean mg mb s.heap) (hd : dp + 1 < recursionLimit) (hlen : x.length + y.length ≤ sizeLine) :
    codeAny (model PG w) (Ar dp un gd outer) (.call (.ref 49) ⟨[.str x t, .str y u], []⟩) (fun r s' => ∃ t', r = .ok (.ret (.str (x ++ y) t')) ∧ Kp s s') s := by
  have TR := topRead_of T
  revert X; dsimp only [PG, KK]; k_fill; intro X
  refine codeAny_mono (codeAny_toks_of (Nat.le_refl _) (R := fun r s' => ∃ t', r = .ok (.ret (.str (x ++ y) t')) ∧ Keeps s s') ?_) (fun r s' ⟨l, t', e, k⟩ => ⟨t', e, Kp.of k l⟩)
  refine' enter X T ?k6 ?k7 ?k8 ?k9 ?kB ?_ ?c2 ?c3 ?c4 ?c5
  (case k6 => k_is); (case k7 => k_is); (case k8 => ktr_room); (case k9 => exact BindsTo.of_eq rfl); (case c5 => decide); (case kB => exact locs rfl); (case c2 => exact rfl); (case c3 => exact rfl); (case c4 => exact rfl)
  intro L' h' F' N'
  dsimp only
  refine wpAny_execs_cons (wpAny_If (isTrue_not ?_))
  refine isTrue_plain ?_
  refine wpAny_Call_ofName (name_B F' X TR (by k_is) Boot.«hasattr» (by decide) ?_)
  refine PyProof.Rows.callWith_builtin1 (spliced_more (ld F' rfl (spliced_more (wpAny_Constant_str (spliced_none ?_)))))
  refine hasattr_str ?_
  refine wpAny_truthy_bool ?_
  rw [if_neg (by decide)]
  have F₁ := F'.push { cls := .type "method-wrapper", data := .fields #[.builtin "str.__getitem__", .str x t] }
  refine wpAny_execs_nil (wpAny_execs_cons (wpAny_Return_some (wpAny_BinOp (ld F₁ rfl (ld F₁ rfl (PyProof.Rows.add_str ?_ hlen))))))
  intro t' tk
  exact ⟨t', rfl, _, tk, rfl, F₁.keep⟩
end
end Mine

end PartB7
section PartB8
open PySem PySem.W PyProof.Rows PySem.Calls PySem.Spec
namespace Mine

theorem dicts_push {h₀ h : Heap} {L a : Addr} {m : Str → Option Value} {name : Str} {scope : Scope} {cd : Value} {outer : List Env} (F : Fr h₀ L h m) (D : KtsDicts (frs outer) h₀) : KtsDicts (frs (envOf name scope L a cd :: outer)) h := by
  intro b hb
  rcases kts_mem hb with rfl | hb
  · obtain ⟨o, es, ep, h1, h2, _⟩ := F.ns
    exact ⟨o, es, ep, h1, h2⟩
  · obtain ⟨o, es, n, h1, h2⟩ := D b hb
    exact ⟨o, es, n, F.keep _ _ h1, h2⟩

theorem slice_post {x : Str} {t : Tok} {l u : Option (Int × Tok)} {s : Shared} {Q : Value → Shared → Prop} (hsz : x.length ≤ sizeLine)
    (h : ∀ (t' : Nat) tk, (t ≠ 0 → s.toks ≠ 0 → t' ≠ 0) → s.toks ≤ tk → Q (.str (Txt.slice x (l.map (·.1)) (u.map (·.1))) t') { s with toks := tk }) : (sliceMade x t l u none).post Q s := by
  have hl := Txt.slice_le x (l.map (·.1)) (u.map (·.1))
  unfold sliceMade
  unfold Txt.slice at h hl
  by_cases c : ((1 : Int) == 1 && (Builtin.Str.strSliceIndices (l.map (·.1)) (u.map (·.1)) 1 x.length).length == x.length) = true
  · rw [if_pos (show ((((none : Option (Int × Tok)).map (·.1)).getD 1 == 1 && (slicePicked x l u none).length == x.length) = true) from c)]
    have := h t s.toks (fun a _ => a) (Nat.le_refl _)
    rw [if_pos c] at this
    exact this
  · rw [if_neg (show ¬ ((((none : Option (Int × Tok)).map (·.1)).getD 1 == 1 && (slicePicked x l u none).length == x.length) = true) from c)]
    have := h s.toks (s.toks + 1) (fun _ a => a) (Nat.le_succ _)
    rw [if_neg c] at this hl
    exact ⟨Nat.le_trans hl hsz, this⟩

theorem slice_bef {x : Str} (h : 39 ∈ x.cps.toList) : Txt.slice x none (some ((x.cps.toList.idxOf 39 : Nat) : Int)) = bef x := by
  have hl : x.cps.toList.idxOf 39 < x.cps.toList.length := List.idxOf_lt_length_of_mem h
  have := StrLaws.sliceText_to (x := x) (j := ((x.cps.toList.idxOf 39 : Nat) : Int)) ⟨by omega, by omega⟩
  refine Eq.trans this ?_
  unfold bef
  simp

theorem slice_aft {x : Str} (h : 39 ∈ x.cps.toList) : Txt.slice x (some (((x.cps.toList.idxOf 39 : Nat) : Int) + 1)) none = aft x := by
  have hl : x.cps.toList.idxOf 39 < x.cps.toList.length := List.idxOf_lt_length_of_mem h
  have := StrLaws.sliceText_from (x := x) (i := ((x.cps.toList.idxOf 39 : Nat) : Int) + 1) ⟨by omega, by omega⟩
  refine Eq.trans this ?_
  unfold aft
  congr 2
  rw [List.take_of_length_le]
  · congr 1
  · rw [List.length_drop]
    omega

theorem idx_get {x : Str} (h : 39 ∈ x.cps.toList) : x.cps[x.cps.toList.idxOf 39]? = some 39 := by
  have hl : x.cps.toList.idxOf 39 < x.cps.toList.length := List.idxOf_lt_length_of_mem h
  have e : x.cps.toList[x.cps.toList.idxOf 39]? = some 39 := by
    rw [List.getElem?_eq_getElem hl]
    exact congrArg some (List.getElem_idxOf hl)
  simpa using e

theorem first_in {w : World} {mean : ExcName → Option Value} {mg mb : Str → Option Value} {dp un : Nat} {gd : Option (List Code)} {outer : List Env} {base : Heap} {s : Shared} {x : Str} {t : Tok}
    (B : Below (Ar dp un gd outer) base outer s.heap) (X₀ : (KK w).In base) (T₀ : TT mean mg mb base) (D : KtsDicts (frs outer) s.heap) (hd : dp + 2 < recursionLimit) (hp : 0 < s.toks) (m1 : 39 ∈ x.cps.toList) :
    codeAny (model PG w) (Ar dp un gd outer) (.call (.ref 77) ⟨[.str x t], []⟩) (fun r s' => ∃ t', t' ≠ 0 ∧ r = .ok (.ret (.int (x.cps.toList.idxOf 39 : Nat) t')) ∧ Kp s s') s := by
  refine codeAny_mono (first_spec B X₀ T₀ D hd hp) fun r s' h => ?_
  rcases h with ⟨_, h⟩ | ⟨q, _⟩
  · exact h
  · exact absurd m1 q

set_option maxHeartbeats 8000000 in
theorem cut_spec {w : World} {mean : ExcName → Option Value} {mg mb : Str → Option Value} {dp un : Nat} {gd : Option (List Code)} {outer : List Env} {base : Heap} {s : Shared} {x : Str} {t : Tok}
    (B : Below (Ar dp un gd outer) base outer s.heap) (X₀ : (KK w).In base) (T₀ : TT mean mg mb base) (D : KtsDicts (frs outer) s.heap) (hd : dp + 3 < recursionLimit) (hp : 0 < s.toks)
    (ht : t ≠ 0) (hlen : x.length + 2 ≤ sizeLine) (hc : 2 ≤ x.cps.toList.count 39) :
    codeAny (model PG w) (Ar dp un gd outer) (.call (.ref 84) ⟨[.str x t], []⟩)
      (fun r s' => ∃ (a : Addr) (ta tb tc : Nat), r = .ok (.ret (.ref a)) ∧ ta ≠ 0 ∧ tb ≠ 0 ∧ tc ≠ 0 ∧ s'.heap.get? a = some (lstOf [.str (bef x) ta, .str (bef (aft x)) tb, .str (aft (aft x)) tc]) ∧ s.heap.get? a = none ∧ Kp s s') s := by
  have X : (KK w).In s.heap := X₀.keeps B.stays
  have T : TT mean mg mb s.heap := T₀.keeps B.stays
  have TR := topRead_of T
  have m1 : 39 ∈ x.cps.toList := mem_of_count (by omega)
  have c1 := count_aft x m1
  have m2 : 39 ∈ (aft x).cps.toList := mem_of_count (by omega)
  have la := aft_length x
  refine codeAny_mono (codeAny_toks_of (Nat.le_refl _) (R := fun r s' => ∃ (a : Addr) (ta tb tc : Nat), r = .ok (.ret (.ref a)) ∧ ta ≠ 0 ∧ tb ≠ 0 ∧ tc ≠ 0 ∧ s'.heap.get? a = some (lstOf [.str (bef x) ta, .str (bef (aft x)) tb, .str (aft (aft x)) tc]) ∧ s.heap.get? a = none ∧ Keeps s s') ?_)
    (fun r s' ⟨l, a, ta, tb, tc, e1, e2, e3, e4, e5, e6, k⟩ => ⟨a, ta, tb, tc, e1, e2, e3, e4, e5, e6, Kp.of k l⟩)
  revert X; dsimp only [PG, KK] at X₀ ⊢; k_fill; intro X
  refine' enter X T ?k6 ?k7 ?k8 ?k9 ?kB ?_ ?c2 ?c3 ?c4 ?c5
  (case k6 => k_is); (case k7 => k_is); (case k8 => ktr_room); (case k9 => exact BindsTo.of_eq rfl); (case c5 => decide); (case kB => exact locs rfl); (case c2 => exact rfl); (case c3 => exact rfl); (case c4 => exact rfl)
  intro L' h' F' N'
  dsimp only
  -- first = _law_first(text)
  refine wpAny_execs_cons (wpAny_Assign_Name (wpAny_Call_ofName (name_K F' X TR (by k_is) (callWith_K X (by k_is) (spliced_more (ld F' rfl (spliced_none ⟨X.keeps F'.keep, wpAny_call (codeAny_mono (first_in (B.push F') X₀ T₀ (dicts_push F' D) ?_ ?_ m1) ?_)⟩)))))))
  · show dp + 1 + 2 < recursionLimit
    omega
  · exact Nat.lt_of_lt_of_le hp (Nat.le_add_right _ _)
  rintro r s₁ ⟨t1, ht1, rfl, h₁, tk₁, rfl, l₁, k₁⟩
  dsimp only at l₁ k₁ ⊢
  have F₁ := fr_keep F' k₁
  refine stS F₁ fun h₂ F₂ b₂ => ?_
  dsimp only
  -- rest = text[add(first, 1):]
  refine wpAny_execs_cons (wpAny_Assign_Name (wpAny_Subscript_str_slice (ld F₂ rfl (evalPart_some_step ?_))))
  refine wpAny_Call_ofName (name_K F₂ X TR (by k_is) (callWith_K X (by k_is) (spliced_more (ld F₂ rfl (spliced_more (wpAny_Constant_int (spliced_none ⟨X.keeps F₂.keep, wpAny_call (codeAny_mono (add_spec (X.keeps F₂.keep) (T.keeps F₂.keep) ?_ ?_) ?_)⟩)))))))
  · show dp + 1 + 1 < recursionLimit
    omega
  · exact Nat.succ_pos _
  rintro r s₃ ⟨t3, ht3, rfl, h₃, tk₃, rfl, l₃, k₃⟩
  dsimp only at l₃ k₃ ⊢
  have F₃ := fr_keep F₂ k₃
  refine evalPart_none_step ⟨x, t, some (_, t3), none, rfl, rfl, rfl, slice_post (by omega) fun t4 tk₄ ht4 l₄ => ?_⟩
  have F₄ := F₃.push { cls := .type "slice", data := .fields #[partValue (some (((x.cps.toList.idxOf 39 : Nat) : Int) + 1, t3)), partValue none, .none] }
  show wpAny _ _ (storeName _ _ (.str (Txt.slice x (some (((x.cps.toList.idxOf 39 : Nat) : Int) + 1)) none) t4)) _ _ _
  rw [slice_aft m1]
  have ht4' : t4 ≠ 0 := ht4 ht (show (tk₃ : Nat) ≠ 0 by omega)
  refine stS F₄ fun h₅ F₅ b₅ => ?_
  dsimp only
  -- second = _law_first(rest)
  refine wpAny_execs_cons (wpAny_Assign_Name (wpAny_Call_ofName (name_K F₅ X TR (by k_is) (callWith_K X (by k_is) (spliced_more (ld F₅ rfl (spliced_none ⟨X.keeps F₅.keep, wpAny_call (codeAny_mono (first_in (B.push F₅) X₀ T₀ (dicts_push F₅ D) ?_ ?_ m2) ?_)⟩)))))))
  · show dp + 1 + 2 < recursionLimit
    omega
  · exact Nat.succ_pos _
  rintro r s₆ ⟨t6, ht6, rfl, h₆, tk₆, rfl, l₆, k₆⟩
  dsimp only at l₆ k₆ ⊢
  have F₆ := fr_keep F₅ k₆
  refine stS F₆ fun h₇ F₇ b₇ => ?_
  dsimp only
  -- if getitem(text, first) != "'" or getitem(rest, second) != "'"
  refine wpAny_execs_cons (wpAny_If (wpAny_isTrue_BoolOp (wpAny_allTrue_Or_cons (wpAny_isTrue_Compare1 ?_))))
  refine wpAny_Call_ofName (name_K F₇ X TR (by k_is) (callWith_K X (by k_is) (spliced_more (ld F₇ rfl (spliced_more (ld F₇ rfl (spliced_none ⟨X.keeps F₇.keep, wpAny_call (codeAny_mono (item_spec (X.keeps F₇.keep) (T.keeps F₇.keep) ?_ (idx_get m1) (by omega)) ?_)⟩)))))))
  · show dp + 1 + 1 < recursionLimit
    omega
  rintro r s₈ ⟨t8, rfl, h₈, tk₈, rfl, l₈, k₈⟩
  dsimp only at l₈ k₈ ⊢
  have F₈ := fr_keep F₇ k₈
  refine wpAny_Constant_str (PyProof.Rows.ne_str (wpAny_truthy_bool ?_))
  rw [show ((⟨#[39]⟩ : Str) != Str.ofString "'") = false from by decide +kernel, if_neg Bool.false_ne_true]
  refine wpAny_allTrue_Or_cons (wpAny_isTrue_Compare1 ?_)
  refine wpAny_Call_ofName (name_K F₈ X TR (by k_is) (callWith_K X (by k_is) (spliced_more (ld F₈ rfl (spliced_more (ld F₈ rfl (spliced_none ⟨X.keeps F₈.keep, wpAny_call (codeAny_mono (item_spec (X.keeps F₈.keep) (T.keeps F₈.keep) ?_ (idx_get m2) (by omega)) ?_)⟩)))))))
  · show dp + 1 + 1 < recursionLimit
    omega
  rintro r s₉ ⟨t9, rfl, h₉, tk₉, rfl, l₉, k₉⟩
  dsimp only at l₉ k₉ ⊢
  have F₉ := fr_keep F₈ k₉
  refine wpAny_Constant_str (PyProof.Rows.ne_str (wpAny_truthy_bool ?_))
  rw [show ((⟨#[39]⟩ : Str) != Str.ofString "'") = false from by decide +kernel, if_neg Bool.false_ne_true]
  refine wpAny_allTrue_Or_nil ?_
  rw [if_neg Bool.false_ne_true]
  refine wpAny_execs_nil ?_
  dsimp only
  -- return [text[:first], rest[:second], rest[add(second, 1):]]
  refine wpAny_execs_cons (wpAny_Return_some (List_ (spliced_more (wpAny_Subscript_str_slice (ld F₉ rfl (evalPart_none_step (evalPart_some_step (ld F₉ rfl ?_))))))))
  refine ⟨x, t, none, some (_, t1), rfl, rfl, rfl, slice_post (by omega) fun ta tka hta la' => ?_⟩
  have FA := F₉.push { cls := .type "slice", data := .fields #[.none, Value.int ((x.cps.toList.idxOf 39 : Nat) : Int) t1, .none] }
  refine spliced_more (wpAny_Subscript_str_slice (ld FA rfl (evalPart_none_step (evalPart_some_step (ld FA rfl ?_)))))
  refine ⟨aft x, t4, none, some (_, t6), rfl, rfl, rfl, slice_post (by omega) fun tb tkb htb lb' => ?_⟩
  have FB := FA.push { cls := .type "slice", data := .fields #[.none, Value.int (((aft x).cps.toList.idxOf 39 : Nat) : Int) t6, .none] }
  refine spliced_more (wpAny_Subscript_str_slice (ld FB rfl (evalPart_some_step ?_)))
  refine wpAny_Call_ofName (name_K FB X TR (by k_is) (callWith_K X (by k_is) (spliced_more (ld FB rfl (spliced_more (wpAny_Constant_int (spliced_none ⟨X.keeps FB.keep, wpAny_call (codeAny_mono (add_spec (X.keeps FB.keep) (T.keeps FB.keep) ?_ ?_) ?_)⟩)))))))
  · show dp + 1 + 1 < recursionLimit
    omega
  · exact Nat.succ_pos _
  rintro r s₁₀ ⟨t10, ht10, rfl, h₁₀, tk₁₀, rfl, l₁₀, k₁₀⟩
  dsimp only at l₁₀ k₁₀ la' lb' hta htb ⊢
  have FC := fr_keep FB k₁₀
  refine evalPart_none_step ⟨aft x, t4, some (_, t10), none, rfl, rfl, rfl, slice_post (by omega) fun tc tkc htc lc' => ?_⟩
  have FD := FC.push { cls := .type "slice", data := .fields #[partValue (some ((((aft x).cps.toList.idxOf 39 : Nat) : Int) + 1, t10)), partValue none, .none] }
  refine spliced_none ?_
  show wpAny _ _ (newList [.str (Txt.slice x none (some ((x.cps.toList.idxOf 39 : Nat) : Int))) ta, .str (Txt.slice (aft x) none (some (((aft x).cps.toList.idxOf 39 : Nat) : Int))) tb,
    .str (Txt.slice (aft x) (some ((((aft x).cps.toList.idxOf 39 : Nat) : Int) + 1)) none) tc]) _ _ _
  rw [slice_bef m1, slice_bef m2, slice_aft m2]
  refine newList_N FD .nil fun hE FE NE => ?_
  exact ⟨_, ta, tb, tc, rfl, hta ht (Nat.succ_ne_zero _), htb ht4' (show (tka : Nat) ≠ 0 by omega), htc ht4' (show (tk₁₀ : Nat) ≠ 0 by omega), NE.get (.head _), push_new FD, hE, _, rfl, FE.keep⟩
end Mine

end PartB8
section PartH2
open PySem PySem.W PyProof.Rows PySem.Calls PySem.Spec
namespace Mine
section
variable {prog : Program} {w : World} {A : Around} {E : Value → Shared → Prop} {s : Shared}

theorem sliceTo2 {sl : Addr} {u : Tok} {Q : Int × Int × Nat → Shared → Prop} (hs : s.heap.IsSliceOf sl .none (.int 2 u) .none) (h : Q (0, 1, 2) s) :
    wpAny (model prog w) A (Builtin.Slice.sliceApplied (.ref sl) (pure 3)) Q E s := by
  obtain ⟨os, hos, hcs, hds⟩ := id hs
  unfold Builtin.Slice.sliceApplied Builtin.Slice.sliceFields
  refine wpAny_bind (wpAny_bind (wpAny_field hos hds (x := .none) rfl (wpAny_bind (wpAny_field hos hds (x := .int 2 u) rfl (wpAny_bind (wpAny_field hos hds (x := .none) rfl (wpAny_pure ?_)))))))
  refine wpAny_bind (slicePart_none ?_)
  show wpAny _ _ (if ((1 : Int) == 0) = true then _ else _) _ _ s
  rw [if_neg (by decide)]
  exact wpAny_bind (slicePart_none (wpAny_bind (slicePart_int (wpAny_bind (wpAny_pure (wpAny_pure h))))))

theorem getItem_two {t sl : Addr} {a b c : Value} {u : Tok} {Q : Value → Shared → Prop} (ht : IsTup s.heap t #[a, b, c]) (hs : s.heap.IsSliceOf sl .none (.int 2 u) .none)
    (h : Q (.ref s.heap.objs.size) { s with heap := s.heap.push { cls := .type "tuple", data := .seq #[a, b] } }) : wpAny (model prog w) A (getItem (.ref t) (.ref sl)) Q E s := by
  obtain ⟨os, hos, hcs, hds⟩ := id hs
  have hTs : s.TypeIs (.ref sl) "slice" := ⟨os, hos, hcs⟩
  unfold getItem
  try with_reducible refine wpAny_holding ?_
  first | refine wpAny_bind (wpAny_pure ?_) | skip
  refine wpAny_bind (wpAny_sequenceKey ht.typeIs (by decide) ?_)
  refine wpAny_bind (wpAny_callSpecial?_slot (name := Str.ofString "__getitem__") ht.typeIs slot_tuple_getitem
    (wpAny_call_entry slot_tuple_getitem ht.typeIs entry_tuple_getitem ?_ (args_tuple_getitem _ _)))
  show wpAny _ _ (Builtin.Tuple.tupleItemsOf (.ref t) >>= _) _ _ s
  refine wpAny_bind (tupleItemsOf_ ht ?_)
  refine wpAny_bind (wpAny_typeOf hTs ?_)
  rw [if_pos (by decide)]
  refine wpAny_bind (sliceTo2 hs ?_)
  show wpAny _ _ (if ((0 : Int) == 0 && (1 : Int) == 1 && (2 : Nat) == 3) = true then _ else _) _ _ s
  rw [if_neg (by decide)]
  have hdrop : sizeOk (.seq #[a, b]) := by
    show 2 ≤ sizeLine
    decide
  exact wpAny_bind (m := Builtin.Tuple.tupleExact _) (wpAny_newObj_type (wpAny_pure ⟨_, rfl, wpAny_pure h⟩) hdrop)

theorem tail_two {value slice : Expr} {t : Addr} {a b c : Value} {u : Tok} {Q : Value → Shared → Prop} (ht : IsTup s.heap t #[a, b, c])
    (h : Q (.ref (s.heap.objs.size + 1)) { s with heap := (s.heap.push { cls := .type "slice", data := .fields #[.none, .int 2 u, .none] }).push { cls := .type "tuple", data := .seq #[a, b] } })
    (hs : subscripted slice false (.ref t) (.ref s.heap.objs.size) = operate [.ref s.heap.objs.size, .ref t] (getItem (.ref t) (.ref s.heap.objs.size)) := by with_unfolding_all rfl)
    (hg : ∀ r, letTemporaryGo value (.ref t) r = pure () := by intro _; with_unfolding_all rfl) :
    wpAny (model prog w) A (subscriptTail value slice (.ref t) (.ref s.heap.objs.size)) Q E { s with heap := s.heap.push { cls := .type "slice", data := .fields #[.none, .int 2 u, .none] } } := by
  have ht' : IsTup (s.heap.push { cls := .type "slice", data := .fields #[.none, .int 2 u, .none] }) t #[a, b, c] := ht.keeps fun _ _ e => Heap.get?_push_of_some _ e
  refine subscriptTail_ops (s := { s with heap := s.heap.push { cls := .type "slice", data := .fields #[.none, .int 2 u, .none] } }) ht'.typeIs slot_tuple_getitem.lookup
    (getItem_two ht' (Heap.IsSliceOf.new ..) ?_) hs hg
  show Q (.ref (s.heap.push _).objs.size) _
  rw [Heap.size_push]
  exact h
end
end Mine

end PartH2
section PartH3
open PySem PySem.W PyProof.Rows PySem.Calls PySem.Spec
namespace Mine
theorem unpack2 {prog : Program} {w : World} {A : Around} {E : Value → Shared → Prop} {s : Shared} {h₀ : Heap} {L a t : Addr} {m : Str → Option Value} {name : Str} {scope : Scope} {cd : Value} {cl : List (Str × Addr)} {n1 n2 : Str} {v1 v2 : Value} {Q : Unit → Shared → Prop}
    (hh : A.handled = none) (F : Fr h₀ L s.heap m) (hT : s.heap.IsTuple t #[v1, v2])
    (h : ∀ h', Fr h₀ L h' (fun y => if y = n1 then some v1 else if y = n2 then some v2 else m y) → (∀ b o, b ≠ L → s.heap.get? b = some o → h'.get? b = some o) → Q () { s with heap := h', toks := s.toks + 2 })
    (hk : scope.kind = .function := by rfl) (hl : (envX name scope L a cd cl).kindOf n1 = some .local := by rfl) (hl2 : (envX name scope L a cd cl).kindOf n2 = some .local := by rfl) :
    wpAny (model prog w) A (unpackItems (.ref t) 2 none) (fun items s₂ => wpAny (model prog w) A (assignInOrder ([n1, n2].reverse.map fun n => bindName (envX name scope L a cd cl) n) items.reverse) Q E s₂) E s := by
  refine wpAny_unpackItems_tuple (items := #[v1, v2]) hh hT fun h₁ x₁ => ?_
  have hL : L < s.heap.objs.size := F.ns.lt
  have n₁ : h₀.get? s.heap.objs.size = none := by
    cases q : h₀.get? s.heap.objs.size with
    | none => rfl
    | some o => exact absurd (Heap.lt_size (F.keep _ _ q)) (Nat.lt_irrefl _)
  have F₁ := fr_at F x₁ (Nat.ne_of_gt hL) n₁
  show wpAny _ A (do holding [v1] (bindName (envX name scope L a cd cl) n2 v2); do holding [] (bindName (envX name scope L a cd cl) n1 v1); pure ()) Q E _
  refine wpAny_bind (wpAny_holding (wpAny_bindName (wpAny_storeName_local hl2 F₁.ns (fun h₂ hn₂ b₂ => ?_) (by show (scope.kind == .class || (scope.kind == .module && L != mainGlobals)) = false; rw [hk]; rfl))))
  have F₂ := F₁.set hn₂ b₂
  refine wpAny_bind (wpAny_holding (wpAny_bindName (wpAny_storeName_local hl F₂.ns (fun h₃ hn₃ b₃ => wpAny_pure ?_) (by show (scope.kind == .class || (scope.kind == .module && L != mainGlobals)) = false; rw [hk]; rfl))))
  have F₃ := F₂.set hn₃ b₃
  exact h h₃ F₃ fun b o n q => b₃.extBut b o n (b₂.extBut b o n (x₁ b o (Nat.ne_of_lt (Heap.lt_size q)) q))
end Mine

end PartH3
section PartB9
open PySem PySem.W PyProof.Rows PySem.Calls PySem.Spec
namespace Mine

theorem ground_after {dp un : Nat} {gd : Option (List Code)} {outer : List Env} {base : Heap} {s sA sB : Shared} {L a : Addr} {m : Str → Option Value} {name : Str} {scope : Scope} {cd : Value}
    (B : Below (Ar dp un gd outer) base outer s.heap) (F : Fr s.heap L sA.heap m) (K : Kx (frs (envOf name scope L a cd :: outer)) sA sB) :
    ∃ g', KtsTurn (frs outer) s.heap g' ∧ Fr g' L sB.heap m ∧ Below (Ar dp un gd outer) base outer g' := by
  obtain ⟨hB, tk, g', rfl, _, T, k⟩ := K
  refine kts_ground (name := name) (scope := scope) (a := a) (cd := cd) (B := hideAll sA.heap (frs (envOf name scope L a cd :: outer))) B F (fun b o q n => hideAll_get _ q n) (fun b o q => ?_) (fun b o q _ => ?_)
  · refine k b o (T.other b o (of_hideAll _ q) fun n => ?_)
    rw [hideAll_none _ n] at q
    cases q
  · obtain ⟨sl, q'⟩ := T.up q
    exact ⟨sl, k _ _ q'⟩

theorem ne_lists {prog : Program} {w : World} {A : Around} {E : Value → Shared → Prop} {s : Shared} {l b : Addr} {items items2 : Array Value} {Q : Value → Shared → Prop} (hl : s.heap.IsList l items) (hb : s.heap.IsList b items2) (hsz : items.size = items2.size) (hu : A.units < cLine)
    (he : ∀ j (h1 : j < items.size) (h2 : j < items2.size), PySem.SeqAt.EqAt A.in1 s items[j] items2[j] true) (h : Q (.bool false) s) : wpAny (model prog w) A (compareOp .NotEq (.ref l) (.ref b)) Q E s := by
  refine PySem.SeqAt.RcNeAt.lists (e := fun _ => true) hl hb hsz hu he prog w E Q ?_
  have : (!(List.range items.size).all fun _ => true) = false := by simp
  rw [this]
  exact h

theorem eqAt_str {A : Around} {s : Shared} (x : Str) (t u : Tok) : PySem.SeqAt.EqAt A s (.str x t) (.str x u) true := by
  have := (eqGives_str x x t u).at A s
  rw [beq_self_eq_true] at this
  exact this

theorem glue (y : Str) (m1 : 39 ∈ y.cps.toList) (m2 : 39 ∈ (aft y).cps.toList) : bef y ++ Str.ofString "'" ++ (bef (aft y) ++ Str.ofString "'") ++ aft (aft y) = y := by
  rw [Str.append_assoc, bef_aft _ m2, bef_aft _ m1]

set_option maxHeartbeats 8000000 in
theorem turns_spec {w : World} {mean : ExcName → Option Value} {mg mb : Str → Option Value} {dp un : Nat} {gd : Option (List Code)} {outer : List Env} {base : Heap} {s : Shared} {x : Str} {t : Tok}
    (B : Below (Ar dp un gd outer) base outer s.heap) (X₀ : (KK w).In base) (T₀ : TT mean mg mb base) (D : KtsDicts (frs outer) s.heap) (hd : dp + 4 < recursionLimit) (hun : un + 40 < cLine) (hp : 0 < s.toks)
    (ht : t ≠ 0) (hlen : x.length + 2 ≤ sizeLine) :
    codeAny (model PG w) (Ar dp un gd outer) (.call (.ref 91) ⟨[.str x t], []⟩)
      (fun r s' => ∃ t' : Nat, r = .ok (.ret (.int (x.cps.toList.count 39 / 2 : Nat) t')) ∧ t' ≠ 0 ∧ Kx (frs outer) s s') s := by
  have X : (KK w).In s.heap := X₀.keeps B.stays
  have T : TT mean mg mb s.heap := T₀.keeps B.stays
  have TR := topRead_of T
  have NB := booked X T
  revert X; dsimp only [PG, KK] at X₀ ⊢; k_fill; intro X
  refine' enter X T ?k6 ?k7 ?k8 ?k9 ?kB ?_ ?c2 ?c3 ?c4 ?c5
  (case k6 => k_is); (case k7 => k_is); (case k8 => ktr_room); (case k9 => exact BindsTo.of_eq rfl); (case c5 => decide); (case kB => exact locs rfl); (case c2 => exact rfl); (case c3 => exact rfl); (case c4 => exact rfl)
  intro L' h' F' N'
  dsimp only
  refine wpAny_execs_cons (wpAny_Assign_Name (wpAny_Constant_int (stS F' fun h₁ F₁ b₁ => ?_)))
  dsimp only
  refine wpAny_execs_cons (wpAny_While ?_)
  refine codeAny_whileLoop
    (fun n s' => ∃ (H : Heap) (tk : Nat) (m' : Str → Option Value) (y : Str) (t' k tt : Nat), s' = { s with heap := H, toks := tk } ∧ Fr s.heap L' H m' ∧ m' (Str.ofString "text") = some (.str y t') ∧ m' (Str.ofString "turns") = some (.int (k : Int) tt) ∧
      t' ≠ 0 ∧ tt ≠ 0 ∧ y.length ≤ x.length ∧ k + y.cps.toList.count 39 / 2 = x.cps.toList.count 39 / 2 ∧ n = y.cps.toList.count 39 ∧ s.toks ≤ tk) ?_ (x.cps.toList.count 39)
    ⟨h₁, s.toks + 1 + 1 + 1, _, x, t, 0, s.toks + 1, rfl, F₁, rfl, rfl, ht, Nat.succ_ne_zero _, Nat.le_refl _, Nat.zero_add _, rfl, by omega⟩
  rintro n s' ⟨H, tk, m', y, t', k, tt, rfl, F, hy, hk, ht', htt, hyl, hkc, rfl, htk⟩
  refine wpAny_isTrue_value (wpAny_Constant_bool (wpAny_truthy_bool ?_))
  rw [if_pos rfl]
  -- parts = decode_rfc2231(text)
  refine wpAny_execs_cons (wpAny_Assign_Name (wpAny_Call_ofName (name_K F X TR (by k_is) (callWith_K X (by k_is) (spliced_more (ld F hy (spliced_none ⟨X.keeps F.keep, wpAny_call (codeAny_mono (dec_spec (X.keeps F.keep) (T.keeps F.keep) ?_ (by omega) ?_) ?_)⟩)))))))
  · show dp + 1 + 1 < recursionLimit
    omega
  · exact Nat.lt_of_lt_of_le hp htk
  rintro r s₂ ⟨v, rfl, ⟨a, rfl, hna, hdec⟩, h₂, tk₂, rfl, l₂, k₂⟩
  dsimp only at l₂ k₂ hna hdec ⊢
  have F₂ := fr_keep F k₂
  refine stS F₂ fun h₃ F₃ b₃ => ?_
  dsimp only at b₃ ⊢
  have haL : a ≠ L' := fun q => by
    obtain ⟨o, _, _, ho, _⟩ := F.ns
    rw [← q, hna] at ho
    cases ho
  have hd₃ : ∀ o, h₂.get? a = some o → h₃.get? a = some o := fun o q => b₃.extBut _ _ haL q
  have hsa : s.heap.get? a = none := kts_none F.keep hna
  -- if lt(countOf(text, "'"), 2)
  refine wpAny_execs_cons (wpAny_If (wpAny_isTrue_value ?_))
  refine wpAny_Call_ofName (name_K F₃ X TR (by k_is) (callWith_K X (by k_is) (spliced_more ?_)))
  refine wpAny_Call_ofName (name_K F₃ X TR (by k_is) (callWith_K X (by k_is) (spliced_more (ld F₃ hy (spliced_more ?_)))))
  refine wpAny_Constant_str (spliced_none ⟨X.keeps F₃.keep, wpAny_call (codeAny_mono (count_spec (X.keeps F₃.keep) (T.keeps F₃.keep) ?_ (Nat.succ_pos _) (Nat.lt_succ_self _)) ?_)⟩)
  · show dp + 1 + 1 < recursionLimit
    omega
  rintro r s₄ ⟨v, rfl, ⟨t4, ht4, rfl⟩, h₄, tk₄, rfl, l₄, k₄⟩
  dsimp only at l₄ k₄ ⊢
  have F₄ := fr_keep F₃ k₄
  refine spliced_more (wpAny_Constant_int (spliced_none ⟨X.keeps F₄.keep, wpAny_call (codeAny_mono (lt_spec (X.keeps F₄.keep) (T.keeps F₄.keep) ?_) ?_)⟩))
  · show dp + 1 + 1 < recursionLimit
    omega
  rintro r s₅ ⟨rfl, h₅, tk₅, rfl, l₅, k₅⟩
  dsimp only at l₅ k₅ ⊢
  have F₅ := fr_keep F₄ k₅
  have hd₅ : ∀ o, h₂.get? a = some o → h₅.get? a = some o := fun o q => k₅ _ _ (k₄ _ _ (hd₃ o q))
  refine wpAny_truthy_bool ?_
  have hdpu : ((Ar dp un gd outer).deeper (envOf (Str.ofString "_law_turns") default L' 91 (Value.ref 90))).units < cLine := by
    show un + 3 < cLine
    omega
  by_cases hc2 : y.cps.toList.count 39 < 2
  · rw [if_pos (by exact decide_eq_true (by omega))]
    have htup : h₅.get? a = some (tupOf [.none, .none, .str y t']) := by
      rcases hdec with ⟨_, q⟩ | ⟨q, _⟩
      · exact hd₅ _ q
      · omega
    have hT : IsTup h₅ a #[.none, .none, .str y t'] := ⟨_, htup, rfl, _, rfl⟩
    have N₅ : News s.heap L' h₅ [(a, tupOf [.none, .none, .str y t'])] := fun p hp => by
      rw [List.mem_singleton.mp hp]
      exact ⟨htup, haL, hsa⟩
    -- plain = ..
    refine wpAny_execs_cons (wpAny_Assign_Name (BoolOp_and (wpAny_Compare1 ?_)))
    refine wpAny_Call_ofName (name_B F₅ X TR (by k_is) Boot.«type» (by decide) (PyProof.Rows.callWith_type1 (spliced_more (ld F₅ rfl (spliced_none (kto_cont (T := "tuple") ⟨_, htup, rfl⟩ (by decide +kernel) ?_))))))
    refine name_B F₅ X TR (by k_is) Boot.«tuple» (by decide) (wpAny_is_self rfl (wpAny_truthy_bool ?_))
    rw [if_pos rfl]
    refine BoolOp_and (wpAny_Compare1 (Subscript_ (ld F₅ rfl (wpAny_Slice (evalPart_none_step (evalPart_some_step (wpAny_Constant_int (evalPart_none_step (tail_two hT ?_)))))))))
    have FA := (F₅.push { cls := .type "slice", data := .fields #[.none, .int 2 tk₅, .none] }).push { cls := .type "tuple", data := .seq #[.none, .none] }
    refine Tuple_ (spliced_more (wpAny_Constant_none (spliced_more (wpAny_Constant_none (spliced_none ?_)))))
    have NA := News.push (F₅.push { cls := .type "slice", data := .fields #[.none, .int 2 tk₅, .none] }) (N₅.grown fun _ _ e => Heap.get?_push_of_some _ e) { cls := .type "tuple", data := .seq #[.none, .none] }
    rw [Heap.size_push] at NA
    refine newTuple_N FA NA fun hB FB NB' => ?_
    refine PySem.SeqAt.eq_tupleAt (items := #[.none, .none]) (items2 := #[.none, .none]) (e := fun _ => true) ⟨_, NB'.get (.tail _ (.head _)), rfl, _, rfl⟩ ⟨_, NB'.get (.head _), rfl, _, rfl⟩ hdpu (fun j h1 h2 => ?_) (wpAny_truthy_bool ?_)
    · have : j = 0 ∨ j = 1 := by
        have : j < 2 := h1
        omega
      rcases this with rfl | rfl
      · exact PySem.SeqAt.EqAt.same _
      · exact PySem.SeqAt.EqAt.same _
    rw [if_pos (by decide)]
    have hTB : IsTup hB a #[.none, .none, .str y t'] := ⟨_, NB'.get (.tail _ (.tail _ (.head _))), rfl, _, rfl⟩
    refine BoolOp_and (wpAny_Compare1 (wpAny_Call_ofName (name_B FB X TR (by k_is) Boot.«len» (by decide) (PyProof.Rows.callWith_builtin1 (spliced_more (ld FB rfl (spliced_none (PyProof.Rows.len_tuple hTB ?_ (wpAny_Constant_int (PyProof.Rows.eq_int (wpAny_truthy_bool ?_)))))))))))
    · show (3 : Int) < 2 ^ 63
      decide
    rw [if_pos (by simp)]
    refine BoolOp_one (wpAny_Compare1 (Subscript_ (ld FB rfl (wpAny_Constant_int (item_tupleT (l := [.none, .none, .str y t']) hTB (by decide) (by decide) rfl rfl (ld FB hy (is_str_self ht' ?_)))))))
    refine stS FB fun h₆ F₆0 b₆ => ?_
    dsimp only
    obtain ⟨m₆, F₆, hp6, hy6, hk6⟩ : ∃ m₆, Fr s.heap L' h₆ m₆ ∧ m₆ (Str.ofString "plain") = some (.bool true) ∧ m₆ (Str.ofString "text") = some (.str y t') ∧ m₆ (Str.ofString "turns") = some (.int (k : Int) tt) := ⟨_, F₆0, rfl, hy, hk⟩
    -- bare = _law_first(text) is None
    refine wpAny_execs_cons (wpAny_Assign_Name (wpAny_Compare1 (wpAny_Call_ofName (name_K F₆ X TR (by k_is) (callWith_K X (by k_is) (spliced_more (ld F₆ hy6 (spliced_none ⟨X.keeps F₆.keep, wpAny_call (codeAny_mono (first_spec (B.push F₆) X₀ T₀ (dicts_push F₆ D) ?_ ?_) ?_)⟩))))))))
    · show dp + 1 + 2 < recursionLimit
      omega
    · exact Nat.succ_pos _
    intro r s₇ hr
    obtain ⟨v, g', h₇, tk₇, rfl, rfl, hv, l₇, KT, F₇, B₇⟩ : ∃ (v : Value) (g' h₇ : Heap) (tk₇ : Nat), r = .ok (.ret v) ∧ s₇ = { s with heap := h₇, toks := tk₇ } ∧ (v == Value.none) = decide (y.cps.toList.count 39 = 0) ∧ tk₅ + 1 ≤ tk₇ ∧
        KtsTurn (frs outer) s.heap g' ∧ Fr g' L' h₇ m₆ ∧ Below (Ar dp un gd outer) base outer g' := by
      rcases hr with ⟨h39, t7, _, rfl, K⟩ | ⟨h39, rfl, K⟩
      · obtain ⟨g', KT, F₇, B₇⟩ := ground_after (scope := default) (name := default) (a := 0) (cd := .none) B F₆ K.kx
        obtain ⟨h₇, tk₇, rfl, l₇, k₇⟩ := K
        refine ⟨_, g', h₇, tk₇, rfl, rfl, ?_, ?_, KT, F₇, B₇⟩
        · have : y.cps.toList.count 39 ≠ 0 := by
            have := List.count_pos_iff.mpr h39
            omega
          rw [decide_eq_false this]
          rfl
        · dsimp only at l₇
          omega
      · obtain ⟨g', KT, F₇, B₇⟩ := ground_after B F₆ K
        obtain ⟨h₇, tk₇, gg, rfl, l₇, k₇⟩ := K
        refine ⟨_, g', h₇, tk₇, rfl, rfl, ?_, ?_, KT, F₇, B₇⟩
        · rw [decide_eq_true (List.count_eq_zero.mpr h39)]
          rfl
        · dsimp only at l₇
          omega
    dsimp only
    have X₇ : (Mine.hd.heap_39 w.params).In g' := X₀.keeps B₇.stays
    have T₇ : TT mean mg mb g' := T₀.keeps B₇.stays
    have TR₇ := topRead_of T₇
    refine wpAny_Constant_none (is_none ?_)
    rw [hv]
    refine stS F₇ fun h₈ F₈ b₈ => ?_
    dsimp only
    -- return turns if plain and bare == (countOf(text, "'") == 0) else None
    refine wpAny_execs_cons (wpAny_Return_some (wpAny_IfExp (wpAny_isTrue_BoolOp (wpAny_allTrue_And_cons (wpAny_isTrue_value (ld F₈ hp6 (wpAny_truthy_bool ?_)))))))
    rw [if_pos rfl]
    refine wpAny_allTrue_And_cons (wpAny_isTrue_Compare1 (ld F₈ rfl (wpAny_Compare1 ?_)))
    refine wpAny_Call_ofName (name_K F₈ X₇ TR₇ (by k_is) (callWith_K X₇ (by k_is) (spliced_more (ld F₈ hy6 (spliced_more ?_)))))
    refine wpAny_Constant_str (spliced_none ⟨X₇.keeps F₈.keep, wpAny_call (codeAny_mono (count_spec (X₇.keeps F₈.keep) (T₇.keeps F₈.keep) ?_ (Nat.succ_pos _) (Nat.lt_succ_self _)) ?_)⟩)
    · show dp + 1 + 1 < recursionLimit
      omega
    rintro r s₉ ⟨v9, rfl, ⟨t9, ht9, rfl⟩, h₉, tk₉, rfl, l₉, k₉⟩
    dsimp only at l₉ k₉ ⊢
    have F₉ := fr_keep F₈ k₉
    refine wpAny_Constant_int (PyProof.Rows.eq_int (PyProof.Rows.eq_bool (wpAny_truthy_bool ?_)))
    have eb : (decide (y.cps.toList.count 39 = 0) == (((y.cps.toList.count 39 : Nat) : Int) == 0)) = true := by
      by_cases q : y.cps.toList.count 39 = 0
      · rw [q]
        rfl
      · rw [decide_eq_false q]
        have : ((((y.cps.toList.count 39 : Nat) : Int) == 0)) = false := by
          rw [beq_eq_false_iff_ne]
          omega
        rw [this]
        rfl
    rw [eb, if_pos rfl]
    refine wpAny_allTrue_And_nil ?_
    rw [if_pos rfl]
    refine ld F₉ hk6 ?_
    dsimp only
    refine ⟨tt, ?_, htt, h₉, _, g', rfl, ?_, KT, F₉.keep⟩
    · have : k = x.cps.toList.count 39 / 2 := by omega
      rw [this]
    · omega
  · rw [if_neg (by rw [decide_eq_true_eq]; omega)]
    refine wpAny_execs_nil ?_
    dsimp only
    obtain ⟨ta, tb, tc, hta, htb, htc, hlst⟩ : ∃ ta tb tc : Nat, ta ≠ 0 ∧ tb ≠ 0 ∧ tc ≠ 0 ∧ h₅.get? a = some (lstOf [.str (bef y) ta, .str (bef (aft y)) tb, .str (aft (aft y)) tc]) := by
      rcases hdec with ⟨q, _⟩ | ⟨_, ta, tb, tc, a1, a2, a3, q⟩
      · exact absurd q hc2
      · exact ⟨ta, tb, tc, a1, a2, a3, hd₅ _ q⟩
    have m1 : 39 ∈ y.cps.toList := mem_of_count (by omega)
    have c1 := count_aft y m1
    have m2 : 39 ∈ (aft y).cps.toList := mem_of_count (by omega)
    have c2 := count_aft (aft y) m2
    have la := aft_length y
    have la2 := aft_length (aft y)
    -- if type(parts) is not list or parts != _law_cut(text)
    refine wpAny_execs_cons (wpAny_If (wpAny_isTrue_BoolOp (wpAny_allTrue_Or_cons (wpAny_isTrue_Compare1 ?_))))
    refine wpAny_Call_ofName (name_B F₅ X TR (by k_is) Boot.«type» (by decide) (PyProof.Rows.callWith_type1 (spliced_more (ld F₅ rfl (spliced_none (kto_cont (T := "list") ⟨_, hlst, rfl⟩ (by decide +kernel) ?_))))))
    refine name_B F₅ X TR (by k_is) Boot.«list» (by decide) (wpAny_isNot_self rfl (wpAny_truthy_bool ?_))
    rw [if_neg Bool.false_ne_true]
    refine wpAny_allTrue_Or_cons (wpAny_isTrue_Compare1 (ld F₅ rfl ?_))
    refine wpAny_Call_ofName (name_K F₅ X TR (by k_is) (callWith_K X (by k_is) (spliced_more (ld F₅ hy (spliced_none ⟨X.keeps F₅.keep, wpAny_call (codeAny_mono (cut_spec (B.push F₅) X₀ T₀ (dicts_push F₅ D) ?_ ?_ ht' (by omega) (by omega)) ?_)⟩)))))
    · show dp + 1 + 3 < recursionLimit
      omega
    · show 0 < tk₅
      omega
    rintro r s₆ ⟨a2, ua, ub, uc, rfl, hua, hub, huc, hl2, hn2, h₆, tk₆, rfl, l₆, k₆⟩
    dsimp only at l₆ k₆ hl2 hn2 ⊢
    have F₆ := fr_keep F₅ k₆
    have hlst₆ := k₆ _ _ hlst
    refine ne_lists (items := #[_, _, _]) (items2 := #[_, _, _]) ⟨_, hlst₆, rfl, _, rfl⟩ ⟨_, hl2, rfl, _, rfl⟩ rfl hdpu (fun j h1 h2 => ?_) (wpAny_truthy_bool ?_)
    · have : j = 0 ∨ j = 1 ∨ j = 2 := by
        have : j < 3 := h1
        omega
      rcases this with rfl | rfl | rfl
      · exact eqAt_str _ _ _
      · exact eqAt_str _ _ _
      · exact eqAt_str _ _ _
    rw [if_neg Bool.false_ne_true]
    refine wpAny_allTrue_Or_nil ?_
    rw [if_neg Bool.false_ne_true]
    refine wpAny_execs_nil ?_
    dsimp only
    have hg := glue y m1 m2
    have hgl := congrArg Str.length hg
    rw [Str.length_append, Str.length_append] at hgl
    -- concat
    refine wpAny_execs_cons (wpAny_If (wpAny_isTrue_Compare1 ?_))
    refine wpAny_Call_ofName (name_K F₆ X TR (by k_is) (callWith_K X (by k_is) (spliced_more ?_)))
    refine wpAny_Call_ofName (name_K F₆ X TR (by k_is) (callWith_K X (by k_is) (spliced_more ?_)))
    refine wpAny_Call_ofName (name_K F₆ X TR (by k_is) (callWith_K X (by k_is) (spliced_more (Subscript_ (ld F₆ rfl (wpAny_Constant_int (item_litK ⟨_, hlst₆, rfl, _, rfl⟩ (by decide) (by decide) rfl (spliced_more ?_))))))))
    refine wpAny_Constant_str (spliced_none ⟨X.keeps F₆.keep, wpAny_call (codeAny_mono (cat_spec (X.keeps F₆.keep) (T.keeps F₆.keep) ?_ ?_) ?_)⟩)
    · show dp + 1 + 1 < recursionLimit
      omega
    · rw [← Str.length_append]
      omega
    rintro r s₇ ⟨t7, rfl, h₇, tk₇, rfl, l₇, k₇⟩
    dsimp only at l₇ k₇ ⊢
    have F₇ := fr_keep F₆ k₇
    have hlst₇ := k₇ _ _ hlst₆
    refine spliced_more ?_
    refine wpAny_Call_ofName (name_K F₇ X TR (by k_is) (callWith_K X (by k_is) (spliced_more (Subscript_ (ld F₇ rfl (wpAny_Constant_int (item_litK ⟨_, hlst₇, rfl, _, rfl⟩ (by decide) (by decide) rfl (spliced_more ?_))))))))
    refine wpAny_Constant_str (spliced_none ⟨X.keeps F₇.keep, wpAny_call (codeAny_mono (cat_spec (X.keeps F₇.keep) (T.keeps F₇.keep) ?_ ?_) ?_)⟩)
    · show dp + 1 + 1 < recursionLimit
      omega
    · rw [← Str.length_append]
      omega
    rintro r s₈ ⟨t8, rfl, h₈, tk₈, rfl, l₈, k₈⟩
    dsimp only at l₈ k₈ ⊢
    have F₈ := fr_keep F₇ k₈
    have hlst₈ := k₈ _ _ hlst₇
    refine spliced_none ⟨X.keeps F₈.keep, wpAny_call (codeAny_mono (cat_spec (X.keeps F₈.keep) (T.keeps F₈.keep) ?_ ?_) ?_)⟩
    · show dp + 1 + 1 < recursionLimit
      omega
    · omega
    rintro r s₉ ⟨t9, rfl, h₉, tk₉, rfl, l₉, k₉⟩
    dsimp only at l₉ k₉ ⊢
    have F₉ := fr_keep F₈ k₉
    have hlst₉ := k₉ _ _ hlst₈
    refine spliced_more (Subscript_ (ld F₉ rfl (wpAny_Constant_int (item_litK ⟨_, hlst₉, rfl, _, rfl⟩ (by decide) (by decide) rfl ?_))))
    refine spliced_none ⟨X.keeps F₉.keep, wpAny_call (codeAny_mono (cat_spec (X.keeps F₉.keep) (T.keeps F₉.keep) ?_ ?_) ?_)⟩
    · show dp + 1 + 1 < recursionLimit
      omega
    · rw [Str.length_append]
      omega
    rintro r s₁₀ ⟨t10, rfl, h₁₀, tk₁₀, rfl, l₁₀, k₁₀⟩
    dsimp only at l₁₀ k₁₀ ⊢
    have F₁₀ := fr_keep F₉ k₁₀
    have hlst₁₀ := k₁₀ _ _ hlst₉
    refine ld F₁₀ hy (PyProof.Rows.ne_str (wpAny_truthy_bool ?_))
    rw [hg, bne_self_eq_false, if_neg Bool.false_ne_true]
    refine wpAny_execs_nil ?_
    dsimp only
    -- text, turns = parts[2], add(turns, 1)
    refine wpAny_execs_cons (Assign_Tuple_swapped (names := [Str.ofString "text", Str.ofString "turns"]) (Tuple_ (spliced_more (Subscript_ (ld F₁₀ rfl (wpAny_Constant_int (item_litK ⟨_, hlst₁₀, rfl, _, rfl⟩ (by decide) (by decide) rfl (spliced_more ?_))))))))
    refine wpAny_Call_ofName (name_K F₁₀ X TR (by k_is) (callWith_K X (by k_is) (spliced_more (ld F₁₀ hk (spliced_more (wpAny_Constant_int (spliced_none ⟨X.keeps F₁₀.keep, wpAny_call (codeAny_mono (add_spec (X.keeps F₁₀.keep) (T.keeps F₁₀.keep) ?_ ?_) ?_)⟩)))))))
    · show dp + 1 + 1 < recursionLimit
      omega
    · exact Nat.succ_pos _
    rintro r s₁₁ ⟨t11, ht11, rfl, h₁₁, tk₁₁, rfl, l₁₁, k₁₁⟩
    dsimp only at l₁₁ k₁₁ ⊢
    have F₁₁ := fr_keep F₁₀ k₁₁
    refine spliced_none (newTuple_N F₁₁ .nil fun h₁₂ F₁₂ N₁₂ => ?_)
    dsimp only
    refine unpack2 (cl := []) rfl F₁₂ ⟨_, N₁₂.get (.head _), rfl, _, rfl⟩ fun h₁₃ F₁₃ k₁₃ => ?_
    refine wpAny_execs_nil ?_
    dsimp only
    refine ⟨y.cps.toList.count 39 - 2, by omega, h₁₃, tk₁₁ + 2, _, aft (aft y), tc, k + 1, t11, rfl, F₁₃, rfl, ?_, htc, ht11, by omega, by omega, by omega, by omega⟩
    have : ((k + 1 : Nat) : Int) = (k : Int) + 1 := by push_cast; rfl
    rw [this]
    rfl
end Mine

end PartB9
section PartL1
open PySem PySem.W PyProof.Rows PySem.Calls PySem.Spec
namespace Mine

/-- the heap goes on: all stands as it stood, the frames' slots apart -/
def Kh (fs : List Addr) (h h' : Heap) : Prop := (∀ b o, b ∉ fs → h.get? b = some o → h'.get? b = some o) ∧ ∀ b o, b ∈ fs → h.get? b = some o → ∃ sl, h'.get? b = some { o with slots := sl }

theorem Kh.of {fs : List Addr} {h h' : Heap} (k : ∀ b o, h.get? b = some o → h'.get? b = some o) : Kh fs h h' := ⟨fun b o _ q => k b o q, fun b o _ q => ⟨o.slots, k b o q⟩⟩
theorem Kh.refl (fs : List Addr) (h : Heap) : Kh fs h h := .of fun _ _ q => q
theorem Kh.trans {fs : List Addr} {h h₁ h₂ : Heap} (a : Kh fs h h₁) (b : Kh fs h₁ h₂) : Kh fs h h₂ := by
  refine ⟨fun c o n q => b.1 c o n (a.1 c o n q), fun c o n q => ?_⟩
  obtain ⟨sl, q1⟩ := a.2 c o n q
  obtain ⟨sl2, q2⟩ := b.2 c _ n q1
  exact ⟨sl2, q2⟩
theorem Kh.up {fs : List Addr} {h h' : Heap} (k : Kh fs h h') : h.UpToSlots h' := fun b o q _ => by
  by_cases n : b ∈ fs
  · exact k.2 b o n q
  · exact ⟨o.slots, k.1 b o n q⟩
theorem Kh.some {fs : List Addr} {h h' : Heap} (k : Kh fs h h') {b : Addr} {o : Obj} (q : h.get? b = some o) : ∃ o', h'.get? b = some o' := by
  by_cases n : b ∈ fs
  · obtain ⟨sl, q'⟩ := k.2 b o n q
    exact ⟨_, q'⟩
  · exact ⟨o, k.1 b o n q⟩

def Ks (fs : List Addr) (s s' : Shared) : Prop := ∃ h' tk, s' = { s with heap := h', toks := tk } ∧ s.toks ≤ tk ∧ Kh fs s.heap h'
theorem Kp.ks {fs : List Addr} {s s' : Shared} (k : Kp s s') : Ks fs s s' := by
  obtain ⟨h, tk, rfl, l, k⟩ := k
  exact ⟨h, tk, rfl, l, .of k⟩
theorem Kx.ks {fs : List Addr} {s s' : Shared} (k : Kx fs s s') : Ks fs s s' := by
  obtain ⟨h, tk, g, rfl, l, T, k⟩ := k
  refine ⟨h, tk, rfl, l, fun b o n q => k _ _ (T.other b o q n), fun b o n q => ?_⟩
  obtain ⟨sl, q'⟩ := T.frame b o q n
  exact ⟨sl, k _ _ q'⟩

theorem fr_kh {base h h' : Heap} {L : Addr} {m : Str → Option Value} (F : Fr base L h m) (k : Kh [L] h h') : Fr base L h' m :=
  F.of_stays (fun b o q => k.1 b o (fun n => by
    rw [List.mem_singleton.mp n] at q
    exact absurd (Heap.lt_size q) (Nat.not_lt.mpr F.above)) (F.keep b o q)) k.up

theorem paired_stab {F : Heap → Value → Value → Prop} (stab : ∀ h h' v y, F h v y → (∀ a o, y = .ref a → h.get? a = some o → h'.get? a = some o) → F h' v y) {h h' : Heap} :
    ∀ {l ys : List Value}, Paired (F h) l ys → (∀ y ∈ ys, ∀ a o, y = .ref a → h.get? a = some o → h'.get? a = some o) → Paired (F h') l ys
  | _, _, .nil, _ => .nil
  | _, _, .cons f t, k => .cons (stab _ _ _ _ f (k _ (.head _))) (paired_stab stab t fun y hy => k y (.tail _ hy))

/-- a comprehension's tests, one behind the other -/
abbrev tst (ifs : List Expr) (e : Env) : Sem Bool := forIn ifs true fun c r => if r = true then do let ok ← isTrue c e (eval c e); pure (ForInStep.yield ok) else pure (ForInStep.yield r)

theorem nea {a b : Nat} (h : a < b ∨ b < a) : ¬ (a : Addr) = (b : Addr) := by
  rcases h with h | h
  · exact Nat.ne_of_lt h
  · exact Nat.ne_of_gt h

/-- what lies outside xs stands as it stood; the frames fs may bear other slots -/
structure Off (xs fs : List Addr) (g h : Heap) : Prop where
  out : ∀ b o, b ∉ xs → b ∉ fs → g.get? b = some o → h.get? b = some o
  sl : ∀ b o, b ∈ fs → g.get? b = some o → ∃ sl, h.get? b = some { o with slots := sl }
theorem Off.refl (xs fs : List Addr) (g : Heap) : Off xs fs g g := ⟨fun _ _ _ _ e => e, fun _ o _ e => ⟨o.slots, e⟩⟩
theorem Off.kh {xs fs : List Addr} {g h h' : Heap} (a : Off xs fs g h) (k : Kh fs h h') : Off xs fs g h' := by
  refine ⟨fun b o n n' e => k.1 b o n' (a.out b o n n' e), fun b o n e => ?_⟩
  obtain ⟨_, e1⟩ := a.sl b o n e
  obtain ⟨sl, e2⟩ := k.2 b _ n e1
  exact ⟨sl, e2⟩
theorem Off.at {xs fs : List Addr} {g h h' : Heap} {x : Addr} (a : Off xs fs g h) (hx : x ∈ xs) (nx : x ∉ fs) (k : Heap.ExtBut x h h') : Off xs fs g h' := by
  refine ⟨fun b o n n' e => k b o (fun z => n (z ▸ hx)) (a.out b o n n' e), fun b o n e => ?_⟩
  obtain ⟨sl, e1⟩ := a.sl b o n e
  exact ⟨sl, k b _ (fun z => nx (z ▸ n)) e1⟩

/-- the four addresses of a comprehension: its names C, its iterator I, its list D, its source S -/
structure Apart (fs : List Addr) (C I D S : Addr) : Prop where
  DI : D ≠ I
  DC : D ≠ C
  IC : I ≠ C
  SI : S ≠ I
  SC : S ≠ C
  SD : S ≠ D
  nC : C ∉ fs
  nI : I ∉ fs
  nD : D ∉ fs
  nS : S ∉ fs

/-- a relation of values that holds on while what the second names stands -/
def Stab (F : Heap → Value → Value → Prop) : Prop := ∀ h h' v y, F h v y → (∀ a o, y = .ref a → h.get? a = some o → h'.get? a = some o) → F h' v y

/-- a comprehension under way: the items l are taken, ys is what they gave -/
structure Way (fs : List Addr) (p : Value → Bool) (F : Heap → Value → Value → Prop) (C I D S : Addr) (items : Array Value) (g h : Heap) (l : List Value) (ys : Array Value) : Prop where
  src : h.IsList S items
  acc : h.IsList D ys
  two : Paired (F h) (l.filter p) ys.toList
  far : ∀ y ∈ ys.toList, ∀ a, y = .ref a → a ∉ [C, I, D] ∧ a ∉ fs
  off : Off [C, I, D] fs g h

section
variable {fs : List Addr} {p : Value → Bool} {F : Heap → Value → Value → Prop} {C I D S x : Addr} {items ys : Array Value} {g h h' : Heap} {l : List Value}
theorem Way.kh (W : Way fs p F C I D S items g h l ys) (P : Apart fs C I D S) (st : Stab F) (k : Kh fs h h') : Way fs p F C I D S items g h' l ys where
  src := W.src.at fun o e => k.1 S o P.nS e
  acc := W.acc.at fun o e => k.1 D o P.nD e
  two := paired_stab st W.two fun y hy a o q e => k.1 a o (W.far y hy a q).2 e
  far := W.far
  off := W.off.kh k
theorem Way.at (W : Way fs p F C I D S items g h l ys) (st : Stab F) (hx : x ∈ [C, I, D]) (nx : x ∉ fs) (nS : S ≠ x) (nD : D ≠ x) (k : Heap.ExtBut x h h') : Way fs p F C I D S items g h' l ys where
  src := W.src.extBut k nS
  acc := W.acc.extBut k nD
  two := paired_stab st W.two fun y hy a o q e => k a o (fun z => (W.far y hy a q).1 (z ▸ hx)) e
  far := W.far
  off := W.off.at hx nx k
theorem Way.pass {v : Value} (W : Way fs p F C I D S items g h l ys) (q : p v = false) : Way fs p F C I D S items g h (l ++ [v]) ys where
  src := W.src
  acc := W.acc
  two := by
    rw [List.filter_append, List.filter_cons_of_neg (by simp [q]), List.filter_nil, List.append_nil]
    exact W.two
  far := W.far
  off := W.off
theorem Way.put {v y : Value} (W : Way fs p F C I D S items g h l ys) (P : Apart fs C I D S) (st : Stab F) (q : p v = true) (hF : F h v y) (hy : ∀ a, y = .ref a → a ∉ [C, I, D] ∧ a ∉ fs)
    (hl : h'.IsList D (ys.push y)) (k : Heap.ExtBut D h h') : Way fs p F C I D S items g h' (l ++ [v]) (ys.push y) where
  src := W.src.extBut k P.SD
  acc := hl
  two := by
    have hD : D ∈ [C, I, D] := by simp
    rw [List.filter_append, List.filter_cons_of_pos (by simp [q]), List.filter_nil, Array.toList_push]
    exact (paired_stab st W.two fun z hz a o e e' => k a o (fun n => (W.far z hz a e).1 (n ▸ hD)) e').snoc (st _ _ _ _ hF fun a o e e' => k a o (fun n => (hy a e).1 (n ▸ hD)) e')
  far := fun z hz => by
    rw [Array.toList_push, List.mem_append, List.mem_singleton] at hz
    rcases hz with hz | rfl
    · exact W.far z hz
    · exact hy
  off := W.off.at (by simp) P.nD k
theorem Way.small (W : Way fs p F C I D S items g h l ys) (hl : l.length ≤ items.size) (hs : items.size ≤ sizeLine) : ys.size ≤ sizeLine := by
  have a := W.two.length
  have b := List.length_filter_le p l
  have c : ys.toList.length = ys.size := by simp
  omega
end

section
variable {prog : Program} {w : World} {A : Around} {R : Result → Shared → Prop} {s : Shared}

theorem comp_loop {elt iter : Expr} {x : Str} {px : Pos} {ifs : List Expr} {scope : Scope} {pos : Pos} {I S D : Addr} {e : Env} {items : Array Value} {m : Str → Option Value}
    (fs : List Addr) (p : Value → Bool) (F : Heap → Value → Value → Prop) (st : Stab F) (P : Apart fs e.locals I D S) (hfs : ∀ b ∈ fs, ∃ o, s.heap.get? b = some o)
    (hh : A.handled = none) (hx : e.kindOf x = some .local) (hk : e.scope.kind = .function) (hsz : items.size ≤ sizeLine)
    (i0 : s.heap.IsListIter I S 0) (l0 : s.heap.IsList S items) (a0 : s.heap.IsList D #[]) (n0 : s.heap.Ns e.locals m)
    (htest : ∀ v h tk m, v ∈ items → h.Ns e.locals m → m x = some v → Off [e.locals, I, D] fs s.heap h → s.toks ≤ tk →
      wpAny (model prog w) A (tst ifs e) (fun ok s' => ok = p v ∧ Ks fs { s with heap := h, toks := tk } s') (notedBy (model prog w) A e fun z s' => R (.error z) s') { s with heap := h, toks := tk })
    (helt : ∀ v h tk m, v ∈ items → p v = true → h.Ns e.locals m → m x = some v → Off [e.locals, I, D] fs s.heap h → s.toks ≤ tk →
      wpAny (model prog w) A (eval elt e) (fun y s' => F s'.heap v y ∧ (∀ a, y = .ref a → h.get? a = none) ∧ Ks fs { s with heap := h, toks := tk } s') (notedBy (model prog w) A e fun z s' => R (.error z) s') { s with heap := h, toks := tk })
    (hR : ∀ h tk m ys, h.Ns e.locals m → Way fs p F e.locals I D S items s.heap h items.toList ys → s.toks ≤ tk → R (.ok .next) { s with heap := h, toks := tk }) :
    codeAny (model prog w) A (.compLoop (.ListComp elt [⟨.Name x px, iter, ifs, 0⟩] scope pos) 0 (.ref I) (.ref D) e) R s := by
  have cI : I ∈ [e.locals, I, D] := by simp
  have cC : e.locals ∈ [e.locals, I, D] := by simp
  have fnew : ∀ {h : Heap} {j : Nat} {l : List Value} {ys : Array Value} {m : Str → Option Value}, h.Ns e.locals m → h.IsListIter I S j → Way fs p F e.locals I D S items s.heap h l ys → ∀ a, h.get? a = none → a ∉ [e.locals, I, D] ∧ a ∉ fs := by
    intro h j l ys m hn hi W a q
    obtain ⟨_, _, _, q1, _⟩ := hn
    obtain ⟨_, q2, _⟩ := hi
    obtain ⟨_, q3, _⟩ := W.acc
    constructor
    · intro z
      simp only [List.mem_cons, List.not_mem_nil, or_false] at z
      rcases z with rfl | rfl | rfl
      · rw [q] at q1; cases q1
      · rw [q] at q2; cases q2
      · rw [q] at q3; cases q3
    · intro z
      obtain ⟨o, ho⟩ := hfs a z
      obtain ⟨sl, q4⟩ := W.off.sl a o z ho
      rw [q] at q4
      cases q4
  refine codeAny_compLoop_tests (fun k s' => ∃ (h : Heap) (tk j : Nat) (m : Str → Option Value) (ys : Array Value), s' = { s with heap := h, toks := tk } ∧ s.toks ≤ tk ∧ j ≤ items.size ∧ j + k = items.size + 1 ∧
      h.IsListIter I S j ∧ h.Ns e.locals m ∧ Way fs p F e.locals I D S items s.heap h (items.toList.take j) ys) ?_ (items.size + 1)
    ⟨s.heap, s.toks, 0, m, #[], rfl, Nat.le_refl _, Nat.zero_le _, Nat.zero_add _, i0, n0, l0, a0, by simpa using Paired.nil, fun y hy => by simp at hy, .refl _ _ _⟩
  rintro k _ ⟨h, tk, j, m, ys, rfl, htk, hj, hjk, hi, hn, W⟩
  rcases Nat.lt_or_ge j items.size with lt | ge
  · -- one turn
    have hv : items[j]? = some items[j] := Array.getElem?_eq_getElem lt
    have htake : items.toList.take (j + 1) = items.toList.take j ++ [items[j]] := by rw [List.take_add_one, List.getElem?_eq_getElem (by simpa using lt)]; rfl
    generalize items[j] = v at hv htake
    have hmem : v ∈ items := Array.mem_of_getElem? hv
    refine wpAny_pyNext_list_item hi W.src hv fun h₁ i₁ b₁ => wpAny_assign_Name (wpAny_storeName_local hx (hn.sameBut b₁ P.IC.symm) (fun h₂ n₂ b₂ => ?_) (by rw [hk]; rfl))
    have i₂ := i₁.extBut b₂.extBut P.IC
    have W₂ := (W.at st cI P.nI P.SI P.DI b₁.extBut).at st cC P.nC P.SC P.DC b₂.extBut
    refine wpAny_mono (htest v h₂ (tk + 1) _ hmem n₂ (by simp) W₂.off (by omega)) (fun ok s₃ z => ?_) fun _ _ z => z
    obtain ⟨rfl, h₃, tk₃, rfl, l₃, k₃⟩ := z
    have i₃ := i₂.at fun o q => k₃.1 _ o P.nI q
    have n₃ := n₂.at' fun o q => k₃.1 _ o P.nC q
    have W₃ := W₂.kh P st k₃
    dsimp only at l₃ ⊢
    cases hpv : p v
    · rw [if_neg Bool.false_ne_true]
      exact ⟨k - 1, by omega, h₃, tk₃, j + 1, _, ys, rfl, by omega, lt, by omega, i₃, n₃, htake ▸ W₃.pass hpv⟩
    · rw [if_pos rfl]
      refine wpAny_mono (helt v h₃ tk₃ _ hmem hpv n₃ (by simp) W₃.off (by omega)) (fun y s₄ z => ?_) fun _ _ z => z
      obtain ⟨hF, hy, h₄, tk₄, rfl, l₄, k₄⟩ := z
      have i₄ := i₃.at fun o q => k₄.1 _ o P.nI q
      have n₄ := n₃.at' fun o q => k₄.1 _ o P.nC q
      have W₄ := W₃.kh P st k₄
      dsimp only at l₄ hF ⊢
      refine wpAny_list_append (hsz := W₄.small (by rw [List.length_take]; omega) hsz) W₄.acc fun h₅ l₅ b₅ => ?_
      exact ⟨k - 1, by omega, h₅, tk₄, j + 1, _, ys.push y, rfl, by omega, lt, by omega, i₄.extBut b₅.extBut P.DI.symm, n₄.sameBut b₅ P.DC.symm,
        htake ▸ W₄.put P st hpv hF (fun a q => fnew n₃ i₃ W₃ a (hy a q)) l₅ b₅.extBut⟩
  · -- the end
    have hall : items.toList.take j = items.toList := List.take_of_length_le (by simpa using ge)
    refine wpAny_pyNext_list_end hh hi W.src (Array.getElem?_eq_none ge) fun h₁ b₁ => ?_
    exact hR h₁ tk m ys (hn.extBut b₁ P.IC.symm) (hall ▸ W.at st cI P.nI P.SI P.DI b₁) htk

/-- three objects are laid, of which the third is filled at once -/
theorem laid3 {h h₁ : Heap} {o1 o2 o3 : Obj} (b : Heap.SameBut (h.objs.size + 1 + 1) (((h.push o1).push o2).push o3) h₁) (f1 : o1.isFreed = false) (f2 : o2.isFreed = false) :
    (∀ b o, h.get? b = some o → h₁.get? b = some o) ∧ h₁.get? h.objs.size = some o1 ∧ h₁.get? (h.objs.size + 1) = some o2 := by
  have s1 : (h.push o1).objs.size = h.objs.size + 1 := Heap.size_push _ _
  refine ⟨fun c o q => ?_, ?_, ?_⟩
  · exact b.extBut c o (nea (.inl (Nat.lt_succ_of_lt (Nat.lt_succ_of_lt (Heap.lt_size q))))) (Heap.get?_push_of_some _ (Heap.get?_push_of_some _ (Heap.get?_push_of_some _ q)))
  · exact b.extBut _ o1 (nea (by omega)) (Heap.get?_push_of_some _ (Heap.get?_push_of_some _ (Heap.get?_push_size _ f1)))
  · exact b.extBut _ o2 (nea (by omega)) (Heap.get?_push_of_some _ (s1 ▸ Heap.get?_push_size _ f2))
theorem none_from {h : Heap} {b : Addr} (l : h.objs.size ≤ b) : h.get? b = none := by
  cases q : h.get? b with
  | none => rfl
  | some o => exact absurd (Heap.lt_size q) (Nat.not_lt.mpr l)

theorem comp_list {E : Value → Shared → Prop} {env : Env} {elt iter : Expr} {x : Str} {px : Pos} {ifs : List Expr} {scope : Scope} {pos : Pos} {Q : Value → Shared → Prop}
    (fs : List Addr) (p : Value → Bool) (F : Heap → Value → Value → Prop) (st : Stab F)
    (hh : A.handled = none) (hfree : ∀ y ∈ scope.names, y.2 ≠ .free) (hcell : ∀ y ∈ scope.names, y.2 ≠ .cell) (hkind : scope.kind = .function)
    (hnames : ∀ y ∈ scope.names, y.2 = .local → scope.names.lookup y.1 = some .local) (hx : scope.names.lookup x = some .local)
    (h : wpAny (model prog w) A (eval iter env) (fun v s₁ => ∃ S items, v = .ref S ∧ s₁.heap.IsList S items ∧ items.size ≤ sizeLine ∧ S ∉ fs ∧ (∀ b ∈ fs, ∃ o, s₁.heap.get? b = some o) ∧
      (∀ C v h tk m E', v ∈ items → h.Ns C m → m x = some v → s₁.heap.get? C = none → Kh fs s₁.heap h → s₁.toks ≤ tk →
        wpAny (model prog w) A (tst ifs (compEnv scope C env)) (fun ok s' => ok = p v ∧ Ks fs { s₁ with heap := h, toks := tk } s') E' { s₁ with heap := h, toks := tk }) ∧
      (∀ C v h tk m E', v ∈ items → p v = true → h.Ns C m → m x = some v → s₁.heap.get? C = none → Kh fs s₁.heap h → s₁.toks ≤ tk →
        wpAny (model prog w) A (eval elt (compEnv scope C env)) (fun y s' => F s'.heap v y ∧ (∀ a, y = .ref a → h.get? a = none) ∧ Ks fs { s₁ with heap := h, toks := tk } s') E' { s₁ with heap := h, toks := tk }) ∧
      (∀ D h tk ys, s₁.heap.get? D = none → h.IsList D ys → Paired (F h) (items.toList.filter p) ys.toList → Kh fs s₁.heap h → s₁.toks ≤ tk → Q (.ref D) { s₁ with heap := h, toks := tk })) E s)
    (hset : ∀ v, foldedSetIterable iter env v = pure v := by intro _; rfl) :
    wpAny (model prog w) A (eval (.ListComp elt [⟨.Name x px, iter, ifs, 0⟩] scope pos) env) Q E s := by
  refine wpAny_ListComp hfree hkind hnames (wpAny_mono h (fun v s₁ q => ?_) fun _ _ q => q) hset
  obtain ⟨S, items, rfl, hl, hsz, nS, hfs, htest, helt, hQ⟩ := q
  have lS : S < s₁.heap.objs.size := by
    obtain ⟨o, q, _⟩ := hl
    exact Heap.lt_size q
  have lf : ∀ b ∈ fs, b < s₁.heap.objs.size := fun b n => by
    obtain ⟨o, q⟩ := hfs b n
    exact Heap.lt_size q
  have nf : ∀ {b : Nat}, s₁.heap.objs.size ≤ b → b ∉ fs := fun l n => Nat.not_lt.mpr l (lf _ n)
  refine wpAny_pyIter_list hl (wpAny_newObj_type (wpAny_newFunctionEnv hcell (fun _ q => nomatch q) (fun h₁ n₁ b₁ => ?_) hkind) (by show 0 ≤ sizeLine; decide))
  simp only [Heap.size_push] at n₁ b₁ ⊢
  obtain ⟨old, i₁, a₁⟩ := laid3 b₁ rfl rfl
  have P : Apart fs (s₁.heap.objs.size + 1 + 1) s₁.heap.objs.size (s₁.heap.objs.size + 1) S :=
    ⟨nea (by omega), nea (by omega), nea (by omega), nea (.inl lS), nea (.inl (Nat.lt_succ_of_lt (Nat.lt_succ_of_lt lS))), nea (.inl (Nat.lt_succ_of_lt lS)), nf (Nat.le_succ_of_le (Nat.le_succ _)), nf (Nat.le_refl _), nf (Nat.le_succ _), nS⟩
  have low : ∀ {b : Nat}, b < s₁.heap.objs.size → b ∉ [s₁.heap.objs.size + 1 + 1, s₁.heap.objs.size, s₁.heap.objs.size + 1] := fun l n => by
    simp only [List.mem_cons, List.not_mem_nil, or_false] at n
    omega
  have kh : ∀ {g : Heap}, Off [s₁.heap.objs.size + 1 + 1, s₁.heap.objs.size, s₁.heap.objs.size + 1] fs h₁ g → Kh fs s₁.heap g := fun O =>
    ⟨fun b o n q => O.out b o (low (Heap.lt_size q)) n (old b o q), fun b o n q => O.sl b o n (old b o q)⟩
  have go : codeAny (model prog w) A (.compLoop (.ListComp elt [⟨.Name x px, iter, ifs, 0⟩] scope pos) 0 (.ref s₁.heap.objs.size) (.ref (s₁.heap.objs.size + 1)) (compEnv scope (s₁.heap.objs.size + 1 + 1) env))
      (fun r s' => ∃ m, s'.heap.Ns (s₁.heap.objs.size + 1 + 1) m ∧ ∀ h', Heap.SameBut (s₁.heap.objs.size + 1 + 1) s'.heap h' →
        match r with
        | .ok _ => Q (.ref (s₁.heap.objs.size + 1)) { s' with heap := h' }
        | .error z => wpAny (model prog w) A (passOn "comprehension.variables-let-go" z (compEnv scope (s₁.heap.objs.size + 1 + 1) env)) Q E { s' with heap := h' })
      { s₁ with heap := h₁ } := by
    refine comp_loop (e := compEnv scope (s₁.heap.objs.size + 1 + 1) env) fs p F st P (fun b n => ?_) hh hx hkind hsz ⟨_, i₁, rfl, rfl⟩ ?_ ⟨_, a₁, rfl, _, rfl⟩ n₁
      (fun v h tk m hv hn hm O l => htest _ v h tk m _ hv hn hm (none_from (by omega)) (kh O) l) (fun v h tk m hv hpv hn hm O l => helt _ v h tk m _ hv hpv hn hm (none_from (by omega)) (kh O) l) fun h tk m ys hn W l => ?_
    · obtain ⟨o, q⟩ := hfs b n
      exact ⟨o, old b o q⟩
    · exact hl.at fun o q => old S o q
    · refine ⟨m, hn, fun h' b' => ?_⟩
      have cC : s₁.heap.objs.size + 1 + 1 ∈ [s₁.heap.objs.size + 1 + 1, s₁.heap.objs.size, s₁.heap.objs.size + 1] := by simp
      have W' := W.at st cC P.nC P.SC P.DC b'.extBut
      exact hQ _ h' tk ys (none_from (by omega)) W'.acc W'.two (kh W'.off) l
  exact codeAny_compStart_list go (wpAny_pyIter_listiter ⟨_, i₁, rfl, rfl⟩ go)
end
end Mine

end PartL1
section PartL2
open PySem PySem.W PyProof.Rows PySem.Calls PySem.Spec
namespace Mine

section
variable {M : Model} {A : Around} {E : Value → Shared → Prop} {s : Shared} {K : Frag} {env : Env} {m mg mb : Str → Option Value} {p : Program} {loose : List Str} {x : Str} {pos : Pos} {v : Value} {Q : Value → Shared → Prop}
theorem nm_L (N : s.heap.Ns env.locals m) (hv : m x = some v) (h : Q v s) (hk : env.scope.kind = .function := by rfl) (hx : env.kindOf x = some .local := by rfl) (hd : (x == ("__debug__" : Str)) = false := by decide) :
    wpAny M A (eval (.Name x pos) env) Q E s := wpAny_Name (wpAny_loadName_local hk hx N hv h) hd
theorem nm_K (X : K.In s.heap) (T : TopRead p loose mg mb s.heap) (e : nsIn K mainGlobals x = some (some v)) (h : Q v s) (hg : env.globals = mainGlobals := by rfl)
    (hk : env.scope.kind = .function := by rfl) (hx : env.kindOf x = some .globalImplicit := by rfl) (hd : (x == ("__debug__" : Str)) = false := by decide) :
    wpAny M A (eval (.Name x pos) env) Q E s := Name_function_global hk hx (loadGlobal_global (show s.heap.Ns env.globals mg from hg ▸ T.g) (mg_of X T.g e) h) hd
theorem nm_B (X : K.In s.heap) (T : TopRead p loose mg mb s.heap) (e : nsIn K mainGlobals x = some none) (hv : bootBuiltins x = some v) (hn : x ≠ "__name__") (h : Q v s) (hg : env.globals = mainGlobals := by rfl) (hb : env.builtins = builtinsNs := by rfl)
    (hk : env.scope.kind = .function := by rfl) (hx : env.kindOf x = some .globalImplicit := by rfl) (hd : (x == ("__debug__" : Str)) = false := by decide) :
    wpAny M A (eval (.Name x pos) env) Q E s :=
  Name_function_global hk hx (loadGlobal_builtin (show s.heap.Ns env.globals mg from hg ▸ T.g) (mg_none_of X T.g e) (show s.heap.Ns env.builtins mb from hb ▸ T.b) ((T.builtins x hn).trans hv) h) hd
end

theorem step {M : Model} {A : Around} {E : Value → Shared → Prop} {s : Shared} {env : Env} {st : Stmt} {rest : List Stmt} {Q : Flow → Shared → Prop} {P : Shared → Prop}
    (h : wpAny M A (exec st env) (fun f s' => f = .next ∧ P s') (fun _ _ => False) s) (g : ∀ s', s.toks ≤ s'.toks → P s' → wpAny M A (execs rest env) Q E s') : wpAny M A (execs (st :: rest) env) Q E s := by
  refine wpAny_execs_cons (wpAny_mono (wpAny_toks_of (Nat.le_refl _) h) (fun f s' h => ?_) fun _ _ h => h.2.elim)
  obtain ⟨l, rfl, hp⟩ := h
  exact g s' l hp

section
variable {prog : Program} {w : World} {A : Around} {E : Value → Shared → Prop} {s : Shared} {Q : Value → Shared → Prop}

theorem post_join2 {s : Shared} {sep : Str} {Q : Value → Shared → Prop} : ∀ (l : List (Str × Tok)), 2 ≤ l.length → ((Txt.join sep (l.map (·.1))).length ≤ sizeLine ∧ Q (.str (Txt.join sep (l.map (·.1))) s.toks) { s with toks := s.toks + 1 }) → (joinMade sep l).post Q s
  | [], h, _ => absurd h (by decide)
  | [p], h, _ => absurd h (by show ¬ 2 ≤ 1; decide)
  | _ :: _ :: _, _, h => ⟨h.1, h.2⟩

theorem join_two {x : Str} {t : Tok} {D : Addr} {l : List (Str × Tok)} (hl : s.heap.IsList D (strValues l).toArray) (h2 : 2 ≤ l.length) (hok : JoinOk x (l.map (·.1)) = true)
    (hq : Q (.str (Txt.join x (l.map (·.1))) s.toks) { s with toks := s.toks + 1 }) : wpAny (model prog w) A (call (.builtin "str.join") [.str x t, .ref D]) Q E s := by
  unfold JoinOk at hok
  rw [Bool.not_eq_true'] at hok
  refine call_meets F.slot_str_join (typeIs_str _ _ _) F.entry_str_join (F.args_str_join_2 _ _) (meets_str_join_list x t D l hok) ⟨hl, post_join2 l h2 ⟨joinFit_length hok, hq⟩⟩

theorem split_len {x : Str} {t u : Tok} (hlen : x.length + 2 ≤ sizeLine)
    (hq : ∀ D (vs : List Value) s', vs.length = x.cps.toList.count 39 + 1 → Kp s s' → s'.heap.IsList D vs.toArray → Q (.ref D) s') :
    wpAny (model prog w) A (call (.builtin "str.split") [.str x t, .str (Str.ofString "'") u]) Q E s := by
  have hn : (Builtin.Str.partsBetween x (Builtin.Str.occurrences x (Str.ofString "'") 0 x.length (x.length + 1)) (Str.ofString "'").length).length ≤ sizeLine := by
    have e1 := StrLaws.occ_length_le_len x (Str.ofString "'") 0 x.length (x.length + 1)
    rw [length_partsBetween]; omega
  refine wpAny_mono (wpAny_toks_of (Nat.le_refl _) (SCG.split1 (Fm := Keeps s) (Q := fun v s' => ∃ (D : Addr) (vs : List Value), v = .ref D ∧ vs.length = x.cps.toList.count 39 + 1 ∧ Keeps s s' ∧ s'.heap.IsList D vs.toArray) ?_ ?_ (by decide +kernel) ?_ (by omega) hn)) ?_ fun _ _ h => h.2
  · intro o k s' hk
    obtain ⟨h', tk, rfl, k'⟩ := hk
    exact ⟨_, _, rfl, fun b o e => Heap.get?_push_of_some _ (k' b o e)⟩
  · exact ⟨s.heap, s.toks, rfl, fun _ _ e => e⟩
  · intro D l s' e k hl
    refine ⟨D, _, rfl, ?_, k, hl⟩
    have := congrArg List.length e
    rw [split_length] at this
    simpa [strValues] using this
  · rintro v s' ⟨l, D, vs, rfl, e, k, hl⟩
    exact hq D vs s' e (.of k l) hl
end
end Mine

end PartL2
section PartM1
open PySem PySem.W PyProof.Rows PySem.Calls PySem.Spec
namespace Mine

theorem item3 {k : Int} (h0 : 0 ≤ k) (h : k < 3) : ∃ c, Txt.item (Str.ofString "'a%") k = ⟨#[c]⟩ := by
  have : k = 0 ∨ k = 1 ∨ k = 2 := by omega
  rcases this with rfl | rfl | rfl
  · exact ⟨39, by decide +kernel⟩
  · exact ⟨97, by decide +kernel⟩
  · exact ⟨37, by decide +kernel⟩

theorem ints_mem : ∀ {vs : List Value} {ns : List Int} {v : Value}, IntsAre vs ns → v ∈ vs → ∃ k t, v = .int k t
  | _, _, _, .nil, h => by cases h
  | _, _, _, .cons n t r, h => by
    rcases List.mem_cons.mp h with rfl | h
    · exact ⟨n, t, rfl⟩
    · exact ints_mem r h
theorem paired_right {F : Value → Value → Prop} : ∀ {l ys : List Value}, Paired F l ys → ∀ y ∈ ys, ∃ v, v ∈ l ∧ F v y
  | _, _, .nil, _, h => by cases h
  | _, _, .cons f t, y, h => by
    rcases List.mem_cons.mp h with rfl | h
    · exact ⟨_, .head _, f⟩
    · obtain ⟨v, hv, hf⟩ := paired_right t y h
      exact ⟨v, .tail _ hv, hf⟩

theorem chars_of : ∀ ys : List Value, (∀ y ∈ ys, ∃ c t, y = .str ⟨#[c]⟩ t) → ∃ l : List (Str × Tok), ys = strValues l ∧ ∀ p ∈ l, p.1.length = 1
  | [], _ => ⟨[], rfl, fun _ h => by cases h⟩
  | y :: r, h => by
    obtain ⟨l, rfl, hl⟩ := chars_of r fun z hz => h z (.tail _ hz)
    obtain ⟨c, t, rfl⟩ := h y (.head _)
    refine ⟨(⟨#[c]⟩, t) :: l, rfl, fun p hp => ?_⟩
    rcases List.mem_cons.mp hp with rfl | hp
    · rfl
    · exact hl p hp
theorem sum_ones : ∀ l : List (Str × Tok), (∀ p ∈ l, p.1.length = 1) → ((l.map (·.1)).map (·.length)).sum = l.length
  | [], _ => rfl
  | p :: r, h => by
    have := sum_ones r fun q hq => h q (.tail _ hq)
    have h1 := h p (.head _)
    simp only [List.map_cons, List.sum_cons, List.length_cons]
    omega
theorem join_ok (l : List (Str × Tok)) (h : ∀ p ∈ l, p.1.length = 1) (hl : l.length ≤ 16) : JoinOk (Str.ofString "") (l.map (·.1)) = true ∧ (Txt.join (Str.ofString "") (l.map (·.1))).length ≤ 16 := by
  have e0 : (Str.ofString "").length = 0 := by decide +kernel
  have e1 := sum_ones l h
  constructor
  · unfold JoinOk
    rw [Bool.not_eq_true']
    refine StrLaws.joinFits (B := 1) (fun y hy => ?_) ?_
    · obtain ⟨p, hp, rfl⟩ := List.mem_map.mp hy
      exact Nat.le_of_eq (h p hp)
    · rw [e0, List.length_map]
      omega
  · show (Builtin.Str.glued _ _).length ≤ 16
    rw [StrLaws.glued_eq_join]
    have := StrLaws.join_length_le (Str.ofString "") (l.map (·.1))
    rw [e0, e1] at this
    omega

theorem list_ne {h : Heap} {D L : Addr} {ys : Array Value} {m : Str → Option Value} (hl : h.IsList D ys) (hn : h.Ns L m) : D ≠ L := by
  rintro rfl
  obtain ⟨o, ho, _, n, hd⟩ := hl
  obtain ⟨o', es, ep, ho', hd', _⟩ := hn
  rw [ho] at ho'
  cases ho'
  rw [hd] at hd'
  cases hd'
theorem list_kh {h h' : Heap} {D L : Addr} {ys : Array Value} (hl : h.IsList D ys) (k : Kh [L] h h') (n : D ≠ L) : h'.IsList D ys := hl.at fun o e => k.1 _ o (fun q => n (List.mem_singleton.mp q)) e
theorem paired_at {F G : Value → Value → Prop} : ∀ {l a b : List Value}, Paired F l a → Paired G l b → a.length = b.length ∧ ∀ j (h1 : j < a.length) (h2 : j < b.length), ∃ v, v ∈ l ∧ F v a[j] ∧ G v b[j]
  | _, _, _, .nil, .nil => ⟨rfl, fun j h => absurd h (Nat.not_lt_zero _)⟩
  | _, _, _, .cons f t, .cons g u => by
    obtain ⟨e, q⟩ := paired_at t u
    refine ⟨congrArg Nat.succ e, fun j h1 h2 => ?_⟩
    cases j with
    | zero => exact ⟨_, .head _, f, g⟩
    | succ j =>
      obtain ⟨v, hv, a, b⟩ := q j (Nat.lt_of_succ_lt_succ h1) (Nat.lt_of_succ_lt_succ h2)
      exact ⟨v, .tail _ hv, a, b⟩
/-- a text's count of ticks -/
def Cn (v y : Value) : Prop := ∃ (z : Str) (t : Tok) (t' : Nat), v = .str z t ∧ t' ≠ 0 ∧ y = .int (z.cps.toList.count 39 : Nat) t'
def Mn (v y : Value) : Prop := ∃ (z : Str) (t t' : Tok), v = .str z t ∧ y = .int (z.cps.toList.count 39 : Nat) t'
theorem self_filter {l : List Value} : l.filter (fun _ => true) = l := List.filter_eq_self.mpr fun _ _ => rfl

theorem eqAt_int {A : Around} {s : Shared} (x : Int) (t u : Tok) : PySem.SeqAt.EqAt A s (.int x t) (.int x u) true := by
  have := (MeetsSeq.EqGives.int x x t u).at A s
  rw [beq_self_eq_true] at this
  exact this

theorem none_filter {l : List Value} : l.filter (fun _ => false) = [] := List.filter_eq_nil_iff.mpr fun _ _ h => nomatch h
theorem paired_nil {F : Value → Value → Prop} {b : Array Value} (h : Paired F [] b.toList) : b = #[] := by
  have := h.length
  simp at this
  exact Array.eq_empty_of_size_eq_zero this.symm

theorem isList_new {h : Heap} {vs : List Value} : (h.push { cls := .type "list", data := .seq vs.toArray }).IsList h.objs.size vs.toArray := ⟨_, Heap.get?_push_size _ rfl, rfl, _, rfl⟩

/-- an int and its floor quotient by j -/
def Fd (j : Int) (v y : Value) : Prop := ∃ (k : Int) (t t' : Tok), v = .int k t ∧ y = .int (k.fdiv j) t'

theorem ints_fd {j : Int} : ∀ {l as : List Value} {ms : List Int}, IntsAre l ms → Paired (Fd j) l as → IntsAre as (ms.map (·.fdiv j))
  | _, _, _, .nil, .nil => .nil
  | _, _, _, .cons k t r, .cons f g => by
    obtain ⟨k', t1, t2, e, rfl⟩ := f
    cases e
    exact .cons _ _ (ints_fd r g)
theorem ints_cn : ∀ {l as bs : List Value}, Paired Cn l as → Paired Mn l bs → ∃ ms, IntsAre as ms ∧ IntsAre bs ms
  | _, _, _, .nil, .nil => ⟨[], .nil, .nil⟩
  | _, _, _, .cons f t, .cons g u => by
    obtain ⟨ms, a, b⟩ := ints_cn t u
    obtain ⟨z, t1, t2, rfl, _, rfl⟩ := f
    obtain ⟨z', t3, t4, e, rfl⟩ := g
    cases e
    exact ⟨_ :: ms, .cons _ _ a, .cons _ _ b⟩
theorem ints_len : ∀ {vs : List Value} {ms : List Int}, IntsAre vs ms → vs.length = ms.length
  | _, _, .nil => rfl
  | _, _, .cons _ _ r => congrArg Nat.succ (ints_len r)
theorem ints_at : ∀ {vs ws : List Value} {ms : List Int}, IntsAre vs ms → IntsAre ws ms → ∀ (j : Nat) (h1 : j < vs.length) (h2 : j < ws.length), ∃ k t u, vs[j] = .int k t ∧ ws[j] = .int k u
  | _, _, _, .nil, _, j, h1, _ => absurd h1 (Nat.not_lt_zero _)
  | _, _, _, .cons n t r, .cons _ u q, 0, _, _ => ⟨n, t, u, rfl, rfl⟩
  | _, _, _, .cons n t r, .cons _ u q, j + 1, h1, h2 => ints_at r q j (Nat.lt_of_succ_lt_succ h1) (Nat.lt_of_succ_lt_succ h2)
theorem ints_take : ∀ {vs : List Value} {ms : List Int} (n : Nat), IntsAre vs ms → IntsAre (vs.take n) (ms.take n)
  | _, _, 0, _ => by simpa using IntsAre.nil
  | _, _, _ + 1, .nil => by simpa using IntsAre.nil
  | _, _, n + 1, .cons k t r => by
    rw [List.take_succ_cons, List.take_succ_cons]
    exact .cons k t (ints_take n r)

theorem ne_ints {prog : Program} {w : World} {A : Around} {E : Value → Shared → Prop} {s : Shared} {l b : Addr} {items items2 : Array Value} {ms : List Int} {Q : Value → Shared → Prop} (hl : s.heap.IsList l items) (hb : s.heap.IsList b items2)
    (h1 : IntsAre items.toList ms) (h2 : IntsAre items2.toList ms) (hu : A.units < cLine) (h : Q (.bool false) s) : wpAny (model prog w) A (compareOp .NotEq (.ref l) (.ref b)) Q E s := by
  have e := (ints_len h1).trans (ints_len h2).symm
  refine ne_lists hl hb (by simpa using e) hu (fun j q1 q2 => ?_) h
  obtain ⟨k, t, u, e1, e2⟩ := ints_at h1 h2 j (by simpa using q1) (by simpa using q2)
  rw [Array.getElem_toList] at e1 e2
  rw [e1, e2]
  exact eqAt_int _ _ _

theorem below_law {base h : Heap} {env : Env} {L : Addr} {m : Str → Option Value} (F : Fr base L h m) (hk : env.scope.kind = .function := by rfl) (hf : env.frame = some L := by rfl) : Below (callerA.deeper env) base [env] h := by
  have hnew : base.get? L = none := by
    cases hq : base.get? L with
    | none => rfl
    | some o => exact absurd (Nat.lt_of_lt_of_le (Heap.lt_size hq) F.above) (Nat.lt_irrefl _)
  refine ⟨Around.frames_deeper rfl, F.keep, ?_⟩
  exact .cons (by rw [hk]; decide) hf F.ns hnew trivial

theorem dicts_law {base h : Heap} {L : Addr} {m : Str → Option Value} (F : Fr base L h m) : KtsDicts [L] h := by
  intro b hb
  rw [List.mem_singleton.mp hb]
  obtain ⟨o, es, ep, h1, h2, _⟩ := F.ns
  exact ⟨o, es, ep, h1, h2⟩

section
variable {prog : Program} {w : World} {A : Around} {E : Value → Shared → Prop} {s : Shared} {h₀ : Heap} {L la : Addr} {m : Str → Option Value} {env : Env} {vals : List Value} {Q : Value → Shared → Prop} {p1 p2 p3 p4 p5 p6 p7 p8 p9 p10 p11 : Pos} {k1 k2 k3 k4 : Nat}
theorem src_eval (hh : A.handled = none) (F : Fr h₀ L s.heap m) (hL : s.heap.IsList la vals.toArray) (hlen : vals.length ≤ 63) (hm : m (Str.ofString "script") = some (.ref la))
    (h : ∀ (b : Addr) (h' : Heap) (t u : Tok) (tk : Nat), s.toks ≤ tk → h'.IsList b (vals.take 3 ++ [Value.int (-8) t, Value.int (7 ^ 30) u]).toArray → Fr h₀ L h' m → (∀ c o, s.heap.get? c = some o → h'.get? c = some o) → Q (.ref b) { s with heap := h', toks := tk })
    (hn : s.heap.Ns env.locals m) (hk : env.scope.kind = .function := by rfl) (hx : env.kindOf (Str.ofString "script") = some .local := by rfl) :
    wpAny (model prog w) A (eval (.BinOp (.Subscript (.Name (Str.ofString "script") p1) (.Slice none (some (.Constant (.int 3) k1 p2)) none p3) p4) .Add (.List [.UnaryOp .USub (.Constant (.int 8) k2 p5) p6, .BinOp (.Constant (.int 7) k3 p7) .Pow (.Constant (.int 30) k4 p8) p9] p10) p11) env) Q E s := by
  refine wpAny_BinOp (wpAny_Subscript_list_slice (nm_L hn hm (evalPart_none_step (evalPart_some_step (wpAny_Constant_int ?_))) hk hx))
  refine ⟨la, vals.toArray, none, some 3, rfl, hL, by rw [List.size_toArray]; exact Nat.le_trans hlen (by decide), .none, .int _ _, ?_⟩
  rw [show slicePick vals.toArray none (some 3) none = (vals.take 3).toArray from slicePick_upto' vals.toArray 3]
  dsimp only
  refine List_ ?_
  refine spliced_more (UnaryOp_ (wpAny_Constant_int (PyProof.Rows.neg_int ?_)))
  dsimp only
  refine spliced_more (wpAny_BinOp (wpAny_Constant_int (wpAny_Constant_int (pow_int (by decide) (by decide +kernel) ?_))))
  dsimp only
  refine spliced_none (wpAny_newObj_type ?_ (by show 2 ≤ sizeLine; decide))
  dsimp only
  have l3 : (vals.take 3).length ≤ 3 := by rw [List.length_take]; omega
  refine PySem.P.add_list (n := 0) (n2 := 0) (items := (vals.take 3).toArray) (items2 := #[Value.int (-8) (s.toks + 1 + 1), Value.int (7 ^ 30) (s.toks + 1 + 1 + 1 + 1 + 1)]) ?_ ?_ ?_ ?_
  · have e1 : ((s.heap.push { cls := .type "slice", data := .fields #[.none, .int 3 s.toks, .none] }).push { cls := .type "list", data := .seq (vals.take 3).toArray }).get? (s.heap.push { cls := .type "slice", data := .fields #[.none, .int 3 s.toks, .none] }).objs.size = some { cls := .type "list", data := .seq (vals.take 3).toArray } := Heap.get?_push_size _ rfl
    rw [Heap.size_push] at e1
    exact Heap.get?_push_of_some _ e1
  · exact Heap.get?_push_size _ rfl
  · refine h _ _ (s.toks + 1 + 1) (s.toks + 1 + 1 + 1 + 1 + 1) _ ?_ ?_ ?_ ?_
    · show s.toks ≤ s.toks + 1 + 1 + 1 + 1 + 1 + 1
      omega
    · refine ⟨_, Heap.get?_push_size _ rfl, rfl, 0, ?_⟩
      simp
    · exact (((F.push _).push _).push _).push _
    · exact fun c o e => Heap.get?_push_of_some _ (Heap.get?_push_of_some _ (Heap.get?_push_of_some _ (Heap.get?_push_of_some _ e)))
  · rw [List.size_toArray]
    exact Nat.le_trans (Nat.add_le_add_right l3 2) (by decide)
end
end Mine

end PartM1
section PartM2
open PySem PySem.W PyProof.Rows PySem.Calls PySem.Spec
namespace Mine

/-- what decode_rfc2231 tells of a text -/
def Td (h : Heap) (v y : Value) : Prop := ∃ (z : Str) (t : Tok) (a : Addr), v = .str z t ∧ y = .ref a ∧
  ((z.cps.toList.count 39 < 2 ∧ h.get? a = some (tupOf [.none, .none, .str z t])) ∨
   (2 ≤ z.cps.toList.count 39 ∧ ∃ ta tb tc : Nat, h.get? a = some (lstOf [.str (bef z) ta, .str (bef (aft z)) tb, .str (aft (aft z)) tc])))
/-- the same as a list of its own -/
def Kd (h : Heap) (v y : Value) : Prop := ∃ (z : Str) (t : Tok) (a : Addr), v = .str z t ∧ y = .ref a ∧
  ((z.cps.toList.count 39 < 2 ∧ h.IsList a #[.none, .none, .str z t]) ∨
   (2 ≤ z.cps.toList.count 39 ∧ ∃ ta tb tc : Nat, h.IsList a #[.str (bef z) ta, .str (bef (aft z)) tb, .str (aft (aft z)) tc]))
/-- a list copied -/
def Ls (g h : Heap) (v y : Value) : Prop := ∃ (a b : Addr) (o : Obj) (items : Array Value) (n : Nat), v = .ref a ∧ g.get? a = some o ∧ o.data = .seq items n ∧ y = .ref b ∧ h.IsList b items

theorem td_stab : ∀ (h h' : Heap) (v y : Value), Td h v y → (∀ a o, y = .ref a → h.get? a = some o → h'.get? a = some o) → Td h' v y := by
  rintro h h' v y ⟨z, t, a, rfl, rfl, q⟩ k
  refine ⟨z, t, a, rfl, rfl, ?_⟩
  rcases q with ⟨c, q⟩ | ⟨c, ta, tb, tc, q⟩
  · exact .inl ⟨c, k _ _ rfl q⟩
  · exact .inr ⟨c, ta, tb, tc, k _ _ rfl q⟩
theorem kd_stab : ∀ (h h' : Heap) (v y : Value), Kd h v y → (∀ a o, y = .ref a → h.get? a = some o → h'.get? a = some o) → Kd h' v y := by
  rintro h h' v y ⟨z, t, a, rfl, rfl, q⟩ k
  refine ⟨z, t, a, rfl, rfl, ?_⟩
  rcases q with ⟨c, q⟩ | ⟨c, ta, tb, tc, q⟩
  · exact .inl ⟨c, q.at fun o e => k _ o rfl e⟩
  · exact .inr ⟨c, ta, tb, tc, q.at fun o e => k _ o rfl e⟩
theorem ls_stab {g : Heap} : ∀ (h h' : Heap) (v y : Value), Ls g h v y → (∀ a o, y = .ref a → h.get? a = some o → h'.get? a = some o) → Ls g h' v y := by
  rintro h h' v y ⟨a, b, o, items, n, rfl, ho, hd, rfl, q⟩ k
  exact ⟨a, b, o, items, n, rfl, ho, hd, rfl, q.at fun o e => k _ o rfl e⟩

theorem seq_ne {h : Heap} {a L : Addr} {o : Obj} {xs : Array Value} {n : Nat} {m : Str → Option Value} (ho : h.get? a = some o) (hd : o.data = .seq xs n) (hn : h.Ns L m) : a ≠ L := by
  rintro rfl
  obtain ⟨o', es, ep, ho', hd', _⟩ := hn
  rw [ho] at ho'
  cases ho'
  rw [hd] at hd'
  cases hd'

theorem paired_map {F G : Value → Value → Prop} (H : ∀ v y, F v y → G v y) : ∀ {l ys : List Value}, Paired F l ys → Paired G l ys
  | _, _, .nil => .nil
  | _, _, .cons f t => .cons (H _ _ f) (paired_map H t)
theorem paired_via {F G K : Value → Value → Prop} (H : ∀ v a z, F v a → G a z → K v z) : ∀ {l as bs : List Value}, Paired F l as → Paired G as bs → Paired K l bs
  | _, _, _, .nil, .nil => .nil
  | _, _, _, .cons f t, .cons g u => .cons (H _ _ _ f g) (paired_via H t u)

theorem td_up {h h' : Heap} {L : Addr} {m : Str → Option Value} {l ys : List Value} (P : Paired (Td h) l ys) (hn : h.Ns L m) (k : ∀ b o, b ≠ L → h.get? b = some o → h'.get? b = some o) : Paired (Td h') l ys := by
  refine paired_map (fun v y q => ?_) P
  obtain ⟨z, t, a, rfl, rfl, q⟩ := q
  refine ⟨z, t, a, rfl, rfl, ?_⟩
  rcases q with ⟨c, q⟩ | ⟨c, ta, tb, tc, q⟩
  · exact .inl ⟨c, k _ _ (seq_ne q rfl hn) q⟩
  · exact .inr ⟨c, ta, tb, tc, k _ _ (seq_ne q rfl hn) q⟩
theorem kd_up {h h' : Heap} {L : Addr} {m : Str → Option Value} {l ys : List Value} (P : Paired (Kd h) l ys) (hn : h.Ns L m) (k : ∀ b o, b ≠ L → h.get? b = some o → h'.get? b = some o) : Paired (Kd h') l ys := by
  refine paired_map (fun v y q => ?_) P
  obtain ⟨z, t, a, rfl, rfl, q⟩ := q
  refine ⟨z, t, a, rfl, rfl, ?_⟩
  rcases q with ⟨c, q⟩ | ⟨c, ta, tb, tc, q⟩
  · exact .inl ⟨c, q.at fun o e => k _ o (list_ne q hn) e⟩
  · exact .inr ⟨c, ta, tb, tc, q.at fun o e => k _ o (list_ne q hn) e⟩
theorem kh_ne {h h' : Heap} {L : Addr} (k : Kh [L] h h') : ∀ b o, b ≠ L → h.get? b = some o → h'.get? b = some o := fun b o n q => k.1 b o (fun z => n (List.mem_singleton.mp z)) q

theorem td_ls_kd {g h : Heap} {l as bs : List Value} (P : Paired (Td g) l as) (P' : Paired (Ls g h) as bs) : Paired (Kd h) l bs := by
  refine paired_via (fun v a z q q' => ?_) P P'
  obtain ⟨x, t, a, rfl, rfl, q⟩ := q
  obtain ⟨a', b, o, items, n, e, ho, hd, rfl, hl⟩ := q'
  cases e
  refine ⟨x, t, b, rfl, rfl, ?_⟩
  rcases q with ⟨c, q⟩ | ⟨c, ta, tb, tc, q⟩
  · rw [q] at ho
    cases ho
    cases hd
    exact .inl ⟨c, hl⟩
  · rw [q] at ho
    cases ho
    cases hd
    exact .inr ⟨c, ta, tb, tc, hl⟩

theorem kd_eq {A : Around} {s : Shared} {v a b : Value} (p : Kd s.heap v a) (q : Kd s.heap v b) (hu : A.units < cLine) : PySem.SeqAt.EqAt A s a b true := by
  obtain ⟨z, t, a, rfl, rfl, p⟩ := p
  obtain ⟨z', t', b, e, rfl, q⟩ := q
  cases e
  by_cases hab : a = b
  · rw [hab]
    exact PySem.SeqAt.EqAt.same _
  refine PySem.SeqAt.EqAt.of_refs hab ?_
  rcases p with ⟨c, p⟩ | ⟨c, ta, tb, tc, p⟩
  · rcases q with ⟨_, q⟩ | ⟨c', _⟩
    · have := PySem.SeqAt.RcAt.lists (e := fun _ => true) p q rfl hu (fun j h1 h2 => PySem.SeqAt.EqAt.same _)
      exact this
    · omega
  · rcases q with ⟨c', _⟩ | ⟨_, ua, ub, uc, q⟩
    · omega
    · have := PySem.SeqAt.RcAt.lists (A := A) (e := fun _ => true) p q rfl hu (fun j h1 h2 => by
        have : j = 0 ∨ j = 1 ∨ j = 2 := by
          have : j < 3 := h1
          omega
        rcases this with rfl | rfl | rfl
        · exact eqAt_str _ _ _
        · exact eqAt_str _ _ _
        · exact eqAt_str _ _ _)
      exact this

theorem ne_kept {prog : Program} {w : World} {A : Around} {E : Value → Shared → Prop} {s : Shared} {l b : Addr} {xs : List Value} {items items2 : Array Value} {Q : Value → Shared → Prop} (hl : s.heap.IsList l items) (hb : s.heap.IsList b items2)
    (h1 : Paired (Kd s.heap) xs items.toList) (h2 : Paired (Kd s.heap) xs items2.toList) (hu : A.units < cLine) (hu1 : A.in1.units < cLine) (h : Q (.bool false) s) : wpAny (model prog w) A (compareOp .NotEq (.ref l) (.ref b)) Q E s := by
  obtain ⟨e, q⟩ := paired_at h1 h2
  refine ne_lists hl hb (by simpa using e) hu (fun j q1 q2 => ?_) h
  obtain ⟨v, _, e1, e2⟩ := q j (by simpa using q1) (by simpa using q2)
  rw [Array.getElem_toList] at e1 e2
  exact kd_eq e1 e2 hu1

/-- what decode_rfc2231 tells is a tuple or a list -/
theorem dec_seq {h : Heap} {v y : Value} (p : Td h v y) : ∃ (a : Addr) (T : String) (o : Obj) (items : Array Value) (n : Nat), y = .ref a ∧ (T = "list" ∨ T = "tuple") ∧ h.get? a = some o ∧ o.cls = .type T ∧ o.data = .seq items n ∧ items.size ≤ sizeLine ∧
    ∀ (h' : Heap) (b : Addr), h'.IsList b items → Kd h' v (.ref b) := by
  obtain ⟨z, t, a, rfl, rfl, q⟩ := p
  rcases q with ⟨c, q⟩ | ⟨c, ta, tb, tc, q⟩
  · exact ⟨a, "tuple", _, _, _, rfl, .inr rfl, q, rfl, rfl, (by show 3 ≤ sizeLine; decide), fun h' b hl => ⟨z, t, b, rfl, rfl, .inl ⟨c, hl⟩⟩⟩
  · exact ⟨a, "list", _, _, _, rfl, .inl rfl, q, rfl, rfl, (by show 3 ≤ sizeLine; decide), fun h' b hl => ⟨z, t, b, rfl, rfl, .inr ⟨c, ta, tb, tc, hl⟩⟩⟩

theorem eq_lists {prog : Program} {w : World} {A : Around} {E : Value → Shared → Prop} {s : Shared} {l b : Addr} {items items2 : Array Value} {Q : Value → Shared → Prop} (hl : s.heap.IsList l items) (hb : s.heap.IsList b items2) (hsz : items.size = items2.size) (hu : A.units < cLine)
    (he : ∀ j (h1 : j < items.size) (h2 : j < items2.size), PySem.SeqAt.EqAt A.in1 s items[j] items2[j] true) (h : Q (.bool true) s) : wpAny (model prog w) A (compareOp .Eq (.ref l) (.ref b)) Q E s := by
  refine PySem.SeqAt.RcAt.lists (e := fun _ => true) hl hb hsz hu he prog w E Q ?_
  have : ((List.range items.size).all fun _ => true) = true := by simp
  rw [this]
  exact h

theorem Ks.trans {fs : List Addr} {s₁ s₂ s₃ : Shared} (a : Ks fs s₁ s₂) (b : Ks fs s₂ s₃) : Ks fs s₁ s₃ := by
  obtain ⟨h, tk, rfl, l, k⟩ := a
  obtain ⟨h', tk', rfl, l', k'⟩ := b
  exact ⟨h', tk', rfl, Nat.le_trans l l', k.trans k'⟩

theorem law_post (args : List WData) : PySem.Challenge.rw_oy0009_01.row.claim.post args (.bool true) args = true :=
  postW_of (X := true) (by rfl) (by with_unfolding_all rfl) rfl

theorem contains_tick (x : Str) : (!(Builtin.Str.occurrences x (Str.ofString "'") 0 x.length 1).isEmpty) = decide (39 ∈ x.cps.toList) := by
  rw [tick_is, occ_tks]
  have e := tks_length x.cps.toList
  by_cases h : 39 ∈ x.cps.toList
  · rw [decide_eq_true h]
    have := List.count_pos_iff.mpr h
    cases q : tks x.cps.toList with
    | nil =>
      have e0 : (tks x.cps.toList).length = 0 := by rw [q]; rfl
      omega
    | cons a l => rfl
  · rw [decide_eq_false h]
    have := List.count_eq_zero.mpr h
    cases q : tks x.cps.toList with
    | nil => rfl
    | cons a l =>
      have e0 : (tks x.cps.toList).length = l.length + 1 := by rw [q]; rfl
      omega
end Mine

end PartM2
section PartL3
open PySem PySem.W PyProof.Rows PySem.Calls PySem.Spec
namespace Mine

set_option maxHeartbeats 8000000 in
theorem whole : PySem.Challenge.rw_oy0009_01.Holds := hd (by
  k_go0
  rename_i w s₀ s₁ mg mb G Y fa o pm doc ho hg KX XP V GL T B TE TW b1 b2 M cdA b4 hcd scr hs hlay0 hL1 hr1 hl2 b5 b6 la vals b7 hL ra w1 r0 hI hr hc1 hc2 K0 hD h₁ tk₁ F co hco N0 X0
  dsimp only
  have TR := topRead_of T
  have hlen : vals.length ≤ 63 := by
    rw [hI.length]
    omega
  generalize hLd : s₁.heap.objs.size = L at *
  have hm0 : ∃ m0, Fr s₁.heap L h₁ m0 ∧ m0 (Str.ofString "script") = some (.ref la) := ⟨_, F, rfl⟩
  obtain ⟨m0, F0, hm0⟩ := hm0
  refine step (P := fun s' => ∃ (D : Addr) (h' : Heap) (tk : Nat) (ys : Array Value) (m : Str → Option Value), s' = { s₁ with heap := h', toks := tk } ∧ h'.IsList D ys ∧ 8 ≤ ys.size ∧ ys.size ≤ 16 ∧ (∀ y ∈ ys.toList, ∃ c t, y = .str ⟨#[c]⟩ t) ∧
      Fr s₁.heap L h' m ∧ m (Str.ofString "script") = some (.ref la) ∧ m (Str.ofString "signs") = some (.ref D) ∧ News s₁.heap L h' [(L + 1, co)]) ?_ ?_
  · refine wpAny_Assign_ListComp_map (fun _ => true) (fun _ y => ∃ c t, y = .str ⟨#[c]⟩ t) (by rfl) rfl (by decide) (by decide) rfl (by decide) rfl rfl rfl ?_
    refine wpAny_BinOp (wpAny_Subscript_list_slice (nm_L F0.ns hm0 (evalPart_none_step (evalPart_some_step (wpAny_Constant_int ?_)))))
    refine ⟨la, vals.toArray, none, some 8, rfl, hL.at fun o e => F0.keep _ o e, by rw [List.size_toArray]; exact Nat.le_trans hlen (by decide), .none, .int _ _, ?_⟩
    rw [show slicePick vals.toArray none (some 8) none = (vals.take 8).toArray from slicePick_upto' vals.toArray 8]
    dsimp only
    have F₁ := F0.push { cls := .type "slice", data := .fields #[.none, .int 8 tk₁, .none] }
    have N₁ := News.push F₁ (N0.grown fun _ _ e => Heap.get?_push_of_some _ e) { cls := .type "list", data := .seq (vals.take 8).toArray }
    have F₂ := F₁.push { cls := .type "list", data := .seq (vals.take 8).toArray }
    rw [Heap.size_push] at N₁
    refine List_ ?_
    iterate 8
      refine spliced_more (wpAny_Constant_int ?_)
      dsimp only
    refine spliced_none (newList_N F₂ N₁ fun h₃ F₃ N₃ => ?_)
    dsimp only at F₃ N₃ ⊢
    have hA := N₃.isList (.tail _ (.head _))
    have hB := N₃.isList (.head _)
    refine add_lists (ws := [.int 1 _, .int 0 _, .int 2 _, .int 0 _, .int 0 _, .int 1 _, .int 0 _, .int 2 _]) F₃ N₃ hA hB (fun h₄ F₄ N₄ => ?_) ?_
    · refine ⟨_, _, m0, rfl, N₄.isList (.head _), ?_, F₄.ns, ?_, ?_, ?_⟩
      · have : (vals.take 8).length ≤ 8 := by rw [List.length_take]; omega
        simp only [List.size_toArray, List.length_append, List.length_cons, List.length_nil]
        exact Nat.le_trans (Nat.add_le_add_right this 8) (by decide)
      · intro C v s₂ m₂ E' hv hn hm hk
        exact wpAny_pure ⟨rfl, s₂.heap, s₂.toks, rfl, fun _ _ e => e⟩
      · intro C v s₂ m₂ E' hv _ hn hm hk
        obtain ⟨k, t, rfl⟩ : ∃ k t, v = .int k t := by
          rcases List.mem_append.mp (List.mem_toArray.mp hv) with q | q
          · exact ints_mem hI (List.mem_of_mem_take q)
          · simp only [List.mem_cons, List.not_mem_nil, or_false] at q
            rcases q with q | q | q | q | q | q | q | q <;> exact ⟨_, _, q⟩
        have kb : ∀ b o, s₁.heap.get? b = some o → s₂.heap.get? b = some o := fun b o e => hk b o (F₄.keep b o e)
        have f4 : 0 ≤ k.fmod 4 ∧ k.fmod 4 < 4 := ⟨Int.fmod_nonneg_of_pos _ (by decide), Int.fmod_lt_of_pos _ (by decide)⟩
        refine IfExp_ (wpAny_isTrue_Compare1 (wpAny_BinOp (nm_L hn hm (wpAny_Constant_int (mod_int' (by decide) (wpAny_Constant_int (PyProof.Rows.lt_int (wpAny_truthy_bool ?_))))))))
        dsimp only
        by_cases h3 : k.fmod 4 < 3
        · rw [if_pos (decide_eq_true h3)]
          refine Subscript_ (wpAny_Constant_str (wpAny_BinOp (nm_L hn hm (wpAny_Constant_int (mod_int' (by decide) ?_)))))
          dsimp only
          have l3 : (Str.ofString "'a%").length = 3 := by decide +kernel
          refine item_str ?_ ?_ ?_ fun _ => ?_
          · unfold fitsSsize
            simp
            omega
          · rw [l3]; omega
          · rw [l3]; omega
          · obtain ⟨c, e⟩ := item3 f4.1 h3
            rw [e]
            exact ⟨⟨c, _, rfl⟩, s₂.heap, _, rfl, fun _ _ e => e⟩
        · rw [if_neg (by rw [decide_eq_true_eq]; exact h3)]
          refine wpAny_Call_ofName (nm_B (KX.keeps kb) (TR.keeps kb) (by k_is) boot_chr (by decide) (PyProof.Rows.callWith_builtin1 (spliced_more (wpAny_BinOp (wpAny_BinOp (nm_L hn hm (wpAny_Constant_int (floordiv_int (by decide) (wpAny_Constant_int (mod_int' (by decide) ?_)) (.inl (PyProof.noPylong_small (by decide)))))))))))
          dsimp only
          have f5 : 0 ≤ (k.fdiv 4).fmod 55296 ∧ (k.fdiv 4).fmod 55296 < 55296 := ⟨Int.fmod_nonneg_of_pos _ (by decide), Int.fmod_lt_of_pos _ (by decide)⟩
          refine spliced_none (chr_of_range f5.1 (by omega) ?_)
          exact ⟨⟨_, _, rfl⟩, s₂.heap, _, rfl, fun _ _ e => e⟩
      · intro D h' tk ys hD hl hP hns hk
        have e1 := hP.length
        have e2 : (vals.take 8).length ≤ 8 := by rw [List.length_take]; omega
        have e3 : ys.toList.length = ys.size := by simp
        rw [List.filter_eq_self.mpr (fun _ _ => rfl)] at e1
        simp only [List.length_append, List.length_cons, List.length_nil] at e1
        refine ⟨rfl, D, h', tk, ys, _, rfl, hl, by omega, by omega, fun y hy => ?_, ⟨hns, fun b o e => hk b o (fun q => ?_) (F₄.keep b o e), F₄.above⟩, hm0, rfl, fun p hp => ?_⟩
        · obtain ⟨_, _, q⟩ := paired_right hP y hy
          exact q
        · have := Heap.lt_size e
          rw [q, hLd] at this
          exact Nat.lt_irrefl _ this
        · rw [List.mem_singleton.mp hp]
          exact ⟨hk _ _ (N0 _ (.head _)).2.1 (N₄.get (.tail _ (.tail _ (.tail _ (.head _))))), (N0 _ (.head _)).2⟩
    · have : (vals.take 8).length ≤ 8 := by rw [List.length_take]; omega
      exact Nat.le_trans (Nat.add_le_add_right this 8) (by decide)
  rintro s' ltk ⟨D, h', tk, ys, m, rfl, hl, y8, y16, hys, F, hms, hmg, N⟩
  dsimp only at ltk ⊢
  obtain ⟨l, hl1, hl2⟩ := chars_of ys.toList hys
  have hyl : ys = (strValues l).toArray := by rw [← hl1]
  have hll : l.length = ys.size := by rw [hyl]; simp [strValues]
  rw [hyl] at hl
  obtain ⟨jok, jlen⟩ := join_ok l hl2 (by omega)
  refine step (P := fun s' => ∃ (h' : Heap) (tk : Nat) (m : Str → Option Value) (x : Str) (tx : Nat) (co : Obj), s' = { s₁ with heap := h', toks := tk } ∧ 0 < tk ∧ tx ≠ 0 ∧ x.length ≤ 16 ∧
      Fr s₁.heap L h' m ∧ m (Str.ofString "script") = some (.ref la) ∧ News s₁.heap L h' [(L + 1, co)] ∧ co.data = .cell (some (.str x tx))) ?_ ?_
  · refine wpAny_Assign_Name (MethodCall_ (wpAny_Constant_str (GM.join (callWith_method1 (spliced_more (nm_L F.ns hmg (spliced_none ?_)))))))
    show wpAny _ _ (call (.builtin "str.join") [.str (Str.ofString "") tk, .ref D]) _ _ _
    refine join_two hl (by omega) jok ?_
    dsimp only
    refine storeX_C (cl := [(Str.ofString "text", L + 1)]) F N rfl (.head fun _ h => by cases h) hco fun h' co' F' N' hco' => ?_
    exact ⟨rfl, h', _, m, _, tk + 1, co', rfl, Nat.succ_pos _, Nat.succ_ne_zero _, jlen, F', hms, N', hco'⟩
  clear hco N hl hmg hl1 hl2 hyl hll jok jlen hys y8 y16 F
  rintro s' ltk2 ⟨h', tk, m, x, tx, co', rfl, htk, htx, hx, F, hms, N, hco⟩
  dsimp only at ltk2 ⊢
  refine step (P := fun s' => ∃ (D : Addr) (h' : Heap) (tk : Nat) (ys : Array Value) (m : Str → Option Value), s' = { s₁ with heap := h', toks := tk } ∧ h'.IsList D ys ∧ ys.size ≤ 17 ∧ (∀ y ∈ ys.toList, ∃ (z : Str) (t : Nat), y = .str z t ∧ t ≠ 0 ∧ z.length ≤ 16) ∧
      Fr s₁.heap L h' m ∧ m (Str.ofString "script") = some (.ref la) ∧ m (Str.ofString "fronts") = some (.ref D)) ?_ ?_
  · refine wpAny_Assign_ListComp_free (cl := [(Str.ofString "text", L + 1)]) (fun _ => true) (fun _ y => ∃ (z : Str) (t : Nat), y = .str z t ∧ t ≠ 0 ∧ z.length ≤ 16) (by rfl) (by rfl) (by decide) rfl (by decide) rfl rfl rfl ?_
    refine wpAny_Call_ofName (nm_B (KX.keeps F.keep) (TR.keeps F.keep) (by k_is) Boot.«range» (by decide) (PyProof.Rows.callWith_type1 (spliced_more (wpAny_BinOp ?_))))
    refine wpAny_Call_ofName (nm_B (KX.keeps F.keep) (TR.keeps F.keep) (by k_is) Boot.«len» (by decide) (PyProof.Rows.callWith_builtin1 (spliced_more ?_)))
    refine wpAny_Name (wpAny_loadName_cell (c := L + 1) rfl rfl rfl ⟨co', N.get (.head _), hco⟩ (spliced_none (PyProof.Rows.len_str ?_ (wpAny_Constant_int (PyProof.Rows.add_int ?_))))) (by decide)
    · omega
    dsimp only
    refine spliced_none (call_range_1 (wpAny_pyIter_range (IsRange.new ..) (small_one (by decide) (by decide) (by omega) (by omega)) ?_))
    dsimp only
    have hsz : Builtin.Range.rangeSize 0 ((x.length : Int) + 1) 1 = ((x.length + 1 : Nat) : Int) := by rw [rangeSize_one]; split <;> omega
    rw [hsz]
    have FI := (F.push { cls := .type "range", data := .fields #[.int 0 (tk + 1 + 1 + 1 + 1), .int ((x.length : Int) + 1) (tk + 1 + 1 + 1), .int 1 (tk + 1 + 1 + 1 + 1 + 1)] }).push { cls := .type "range_iterator", data := .fields #[rawInt 0, rawInt ((x.length + 1 : Nat) : Int), rawInt 1] }
    have NI := (N.grown fun _ _ e => Heap.get?_push_of_some { cls := .type "range", data := .fields #[.int 0 (tk + 1 + 1 + 1 + 1), .int ((x.length : Int) + 1) (tk + 1 + 1 + 1), .int 1 (tk + 1 + 1 + 1 + 1 + 1)] } e).grown fun _ _ e => Heap.get?_push_of_some { cls := .type "range_iterator", data := .fields #[rawInt 0, rawInt ((x.length + 1 : Nat) : Int), rawInt 1] } e
    have hLI : L ≠ (h'.push { cls := .type "range", data := .fields #[.int 0 (tk + 1 + 1 + 1 + 1), .int ((x.length : Int) + 1) (tk + 1 + 1 + 1), .int 1 (tk + 1 + 1 + 1 + 1 + 1)] }).objs.size := by
      have := (F.push { cls := .type "range", data := .fields #[.int 0 (tk + 1 + 1 + 1 + 1), .int ((x.length : Int) + 1) (tk + 1 + 1 + 1), .int 1 (tk + 1 + 1 + 1 + 1 + 1)] }).ns.lt
      exact Nat.ne_of_lt this
    have hCI : L + 1 ≠ (h'.push { cls := .type "range", data := .fields #[.int 0 (tk + 1 + 1 + 1 + 1), .int ((x.length : Int) + 1) (tk + 1 + 1 + 1), .int 1 (tk + 1 + 1 + 1 + 1 + 1)] }).objs.size := by
      have := Heap.lt_size (N.get (.head _))
      rw [Heap.size_push]
      exact Nat.ne_of_lt (Nat.lt_succ_of_lt this)
    have hnI := push_new (F.push { cls := .type "range", data := .fields #[.int 0 (tk + 1 + 1 + 1 + 1), .int ((x.length : Int) + 1) (tk + 1 + 1 + 1), .int 1 (tk + 1 + 1 + 1 + 1 + 1)] })
    refine ⟨_, _, _, x.length + 1, _, _, m, rfl, Walks.range rfl _ 0 1 (x.length + 1), Nat.le_trans (Nat.succ_le_succ hx) (by decide), ?_, ?_, ?_, FI.ns, ⟨?_, ?_⟩, ?_⟩
    · have e1 : (0 + ((0 : Nat) : Int) * 1) = 0 := by simp
      have e2 : (((x.length + 1 : Nat) : Int) - ((0 : Nat) : Int)) = ((x.length + 1 : Nat) : Int) := by simp
      rw [e1, e2]
      exact Heap.get?_push_size _ rfl
    · intro b hb
      rw [List.mem_singleton.mp hb]
      exact Nat.lt_of_lt_of_eq (Nat.lt_succ_self _) (Heap.size_push _ _).symm
    · intro q
      exact hLI (List.mem_singleton.mp q)
    · intro C i v s₃ m₃ E' _ _ _ _ _ _
      exact wpAny_pure ⟨rfl, s₃.heap, s₃.toks, rfl, fun _ _ e => e⟩
    · rintro C i v s₃ m₃ E' _ ⟨t, rfl⟩ _ hn hm hk htk3
      dsimp only at htk3
      have hc := hk _ _ (fun q => hCI (List.mem_singleton.mp q)) (NI.get (.head _))
      refine wpAny_Subscript_str_slice ?_
      refine wpAny_Name (wpAny_loadName_cell (c := L + 1) rfl rfl rfl ⟨co', hc, hco⟩ ?_) (by decide)
      refine evalPart_none_step (evalPart_some_step (nm_L hn hm ?_))
      refine ⟨x, tx, none, some (_, t), rfl, rfl, rfl, slice_post (Nat.le_trans hx (by decide)) fun t' tk' ht' l' => ?_⟩
      have sl := Txt.slice_le x none (some (0 + (i : Int) * 1))
      refine ⟨⟨_, t', rfl, ht' htx ?_, ?_⟩, _, _, rfl, fun _ _ e => Heap.get?_push_of_some _ e⟩
      · show s₃.toks ≠ 0
        exact Nat.ne_of_gt (Nat.lt_of_lt_of_le (Nat.succ_pos _) htk3)
      · exact Nat.le_trans sl hx
    · intro D h'' tk' ys vs hD hl hpl hvl hP hPa hns hk
      have e1 := hPa.length
      rw [List.filter_eq_self.mpr (fun _ _ => rfl)] at e1
      have e3 : ys.toList.length = ys.size := by simp
      refine ⟨rfl, D, h'', tk', ys, _, rfl, hl, by omega, fun y hy => ?_, ⟨hns, fun b o e => hk b o (fun q => ?_) (fun q => ?_) (FI.keep b o e), F.above⟩, hms, rfl⟩
      · obtain ⟨_, _, q⟩ := paired_right hPa y hy
        exact q
      · have := Heap.lt_size e
        rw [q, hLd] at this
        exact Nat.lt_irrefl _ this
      · rw [List.mem_singleton.mp q, hnI] at e
        cases e
  clear hco N hms F
  rintro s' ltk3 ⟨D, h', tk', ys, m, rfl, hl, hyn, hys, F, hms, hmf⟩
  dsimp only at ltk3 ⊢
  have hfL : ∀ {h : Heap} {m : Str → Option Value}, Fr s₁.heap L h m → ∀ b ∈ [L], ∃ o, h.get? b = some o := fun F b hb => by
    obtain ⟨o, _, _, e, _⟩ := F.ns
    rw [List.mem_singleton.mp hb]
    exact ⟨o, e⟩
  have h17 : ys.size ≤ sizeLine := Nat.le_trans hyn (by decide)
  have hfit : ∀ z : Str, z.length ≤ 16 → z.length + 2 ≤ sizeLine := fun z h => Nat.le_trans (Nat.add_le_add_right h 2) (by decide)
  have hDL := list_ne hl F.ns
  refine step (P := fun s' => ∃ (h' : Heap) (tk : Nat) (m : Str → Option Value) (c1 c2 : Addr) (as bs : Array Value), s' = { s₁ with heap := h', toks := tk } ∧ h'.IsList D ys ∧ h'.IsList c1 as ∧ h'.IsList c2 bs ∧ Paired Cn ys.toList as.toList ∧ Paired Mn ys.toList bs.toList ∧
      Fr s₁.heap L h' m ∧ m (Str.ofString "script") = some (.ref la) ∧ m (Str.ofString "fronts") = some (.ref D) ∧ m (Str.ofString "counts") = some (.ref c1) ∧ m (Str.ofString "many") = some (.ref c2)) ?_ ?_
  · refine Assign_Tuple_swapped (names := [Str.ofString "counts", Str.ofString "many"]) (Tuple_ (spliced_more ?_))
    refine comp_list [L] (fun _ => true) (fun _ => Cn) (fun _ _ _ _ h _ => h) rfl (by decide) (by decide) rfl (by decide) rfl (nm_L F.ns hmf ?_)
    refine ⟨D, ys, rfl, hl, h17, fun q => hDL (List.mem_singleton.mp q), hfL F, ?_, ?_, ?_⟩
    · intro C v h₂ tk₂ m₂ E' _ _ _ _ _ _
      exact wpAny_pure ⟨rfl, Kp.ks (.refl _)⟩
    · intro C v h₂ tk₂ m₂ E' hv _ hn hm _ hk htk2
      obtain ⟨z, t, rfl, ht, hz⟩ := hys v (Array.mem_toList_iff.mpr hv)
      have kb := (fr_kh F hk).keep
      dsimp only at htk2 ⊢
      refine wpAny_Call_ofName (nm_K (KX.keeps kb) (TR.keeps kb) (by k_is) (callWith_K KX (by k_is) (spliced_more (nm_L hn hm (spliced_more ?_)))))
      refine wpAny_Constant_str (spliced_none ⟨KX.keeps kb, wpAny_call (codeAny_mono (count_spec (KX.keeps kb) (T.keeps kb) ?_ ?_ (Nat.lt_succ_self _)) ?_)⟩)
      · decide
      · exact Nat.lt_of_lt_of_le htk (Nat.le_trans ltk3 htk2)
      rintro r s₄ ⟨v, rfl, ⟨t4, ht4, rfl⟩, K⟩
      exact ⟨⟨z, t, t4, rfl, ht4, rfl⟩, fun a q => (nomatch q), Kp.ks (Kp.trans ⟨h₂, _, rfl, Nat.le_succ _, fun _ _ e => e⟩ K)⟩
    intro c1 h₁' tk₁' as hc1 hl1 hP1 hk1 htk1
    rw [self_filter] at hP1
    dsimp only at htk1 ⊢
    have F₁ := fr_kh F hk1
    have hlD₁ := list_kh hl hk1 hDL
    refine spliced_more ?_
    refine comp_list [L] (fun _ => true) (fun _ => Mn) (fun _ _ _ _ h _ => h) rfl (by decide) (by decide) rfl (by decide) rfl (nm_L F₁.ns hmf ?_)
    refine ⟨D, ys, rfl, hlD₁, h17, fun q => hDL (List.mem_singleton.mp q), hfL F₁, ?_, ?_, ?_⟩
    · intro C v h₂ tk₂ m₂ E' _ _ _ _ _ _
      exact wpAny_pure ⟨rfl, Kp.ks (.refl _)⟩
    · intro C v h₂ tk₂ m₂ E' hv _ hn hm _ hk htk2
      obtain ⟨z, t, rfl, ht, hz⟩ := hys v (Array.mem_toList_iff.mpr hv)
      have kb := (fr_kh F₁ hk).keep
      dsimp only at htk2 ⊢
      refine wpAny_BinOp (wpAny_Call_ofName (nm_B (KX.keeps kb) (TR.keeps kb) (by k_is) Boot.«len» (by decide) (PyProof.Rows.callWith_builtin1 (spliced_more ?_))))
      refine MethodCall_ (nm_L hn hm (GM.split (callWith_method1 (spliced_more (wpAny_Constant_str (spliced_none ?_))))))
      refine split_len (hfit z hz) fun Dz vs s₄ hvs K hlz => ?_
      have hcl := List.count_le_length (a := 39) (l := z.cps.toList)
      have hzl : z.cps.toList.length = z.length := by simp [Str.length]
      refine spliced_none (call_len_list hlz (by rw [List.size_toArray]; omega) (wpAny_Constant_int (PyProof.Rows.sub_int ?_)))
      have e : ((vs.toArray.size : Nat) : Int) - 1 = ((z.cps.toList.count 39 : Nat) : Int) := by
        rw [List.size_toArray, hvs]
        omega
      rw [e]
      refine ⟨⟨z, t, _, rfl, rfl⟩, fun a q => (nomatch q), Kp.ks (Kp.trans ⟨h₂, _, rfl, Nat.le_succ _, fun _ _ e => e⟩ (Kp.trans K ⟨s₄.heap, _, rfl, ?_, fun _ _ e => e⟩))⟩
      dsimp only
      exact Nat.le_succ_of_le (Nat.le_succ_of_le (Nat.le_succ_of_le (Nat.le_succ _)))
    intro c2 h₂' tk₂' bs hc2 hl2 hP2 hk2 htk2
    rw [self_filter] at hP2
    dsimp only at htk2 ⊢
    have F₂ := fr_kh F₁ hk2
    have hlD₂ := list_kh hlD₁ hk2 hDL
    have n1 := list_ne hl1 F₁.ns
    have n2 := list_ne hl2 F₂.ns
    refine spliced_none (wpAny_newObj_type ?_ (by show 2 ≤ sizeLine; decide))
    refine unpack2 (cl := [(Str.ofString "text", L + 1)]) rfl (F₂.push { cls := .type "tuple", data := .seq #[.ref c1, .ref c2] }) ⟨_, Heap.get?_push_size _ rfl, rfl, _, rfl⟩ fun h₄ F₄ k₄ => ?_
    have up : ∀ {b : Addr} {zs : Array Value}, b ≠ L → h₂'.IsList b zs → h₄.IsList b zs := fun hb hz => hz.at fun o e => k₄ _ o hb (Heap.get?_push_of_some _ e)
    refine ⟨rfl, h₄, _, _, c1, c2, as, bs, rfl, up hDL hlD₂, up n1 (list_kh hl1 hk2 n1), up n2 hl2, hP1, hP2, F₄, hms, hmf, rfl, rfl⟩
  clear hl hmf hms F
  rintro s' ltk4 ⟨h', tk', m, c1, c2, as, bs, rfl, hl, hl1, hl2, hP1, hP2, F, hms, hmf, hmc, hmm⟩
  dsimp only at ltk4 ⊢
  have htk : 0 < tk' := by omega
  have n1 := list_ne hl1 F.ns
  have n2 := list_ne hl2 F.ns
  obtain ⟨ep, hp⟩ := paired_at hP1 hP2
  refine step (P := fun s' => ∃ (h' : Heap) (tk : Nat), s' = { s₁ with heap := h', toks := tk } ∧ h'.IsList D ys ∧ h'.IsList c1 as ∧ h'.IsList c2 bs ∧ Fr s₁.heap L h' m) ?_ ?_
  · refine wpAny_If (wpAny_isTrue_BoolOp (wpAny_allTrue_Or_cons (wpAny_isTrue_Compare1 (nm_L F.ns hmc (nm_L F.ns hmm (ne_lists hl1 hl2 (by simpa using ep) (by show 7 < cLine; decide) (fun j h1 h2 => ?_) (wpAny_truthy_bool ?_)))))))
    · obtain ⟨v, _, ⟨z, t, t', rfl, _, e1⟩, ⟨z', t2, t3, e, e2⟩⟩ := hp j (by simpa using h1) (by simpa using h2)
      cases e
      rw [Array.getElem_toList] at e1 e2
      rw [e1, e2]
      exact eqAt_int _ _ _
    rw [if_neg Bool.false_ne_true]
    refine wpAny_allTrue_Or_cons (wpAny_isTrue_Compare1 ?_)
    refine comp_list [L] (fun _ => false) (fun _ _ _ => True) (fun _ _ _ _ h _ => h) rfl (by decide) (by decide) rfl (by decide) rfl (nm_L F.ns hmc ?_)
    have a17 : as.size ≤ sizeLine := by
      have e := hP1.length
      have e1 : as.toList.length = as.size := by simp
      have e2 : ys.toList.length = ys.size := by simp
      omega
    refine ⟨c1, as, rfl, hl1, a17, fun q => n1 (List.mem_singleton.mp q), hfL F, ?_, ?_, ?_⟩
    · intro C v h₂ tk₂ m₂ E' hv hn hm _ hk htk2
      obtain ⟨_, _, z, t, t', _, _, rfl⟩ := paired_right hP1 v (Array.mem_toList_iff.mpr hv)
      have kb := (fr_kh F hk).keep
      refine wpAny_tests_one (wpAny_isTrue_Compare1 (wpAny_Call_ofName (nm_B (KX.keeps kb) (TR.keeps kb) (by k_is) Boot.«type» (by decide) (PyProof.Rows.callWith_type1 (spliced_more (nm_L hn hm (spliced_none (call_type_of (Tx := "int") (typeIs_int _ _ _) (by decide +kernel) ?_))))))))
      refine nm_B (KX.keeps kb) (TR.keeps kb) (by k_is) boot_int (by decide) (wpAny_isNot_self rfl (wpAny_truthy_bool ?_))
      exact ⟨rfl, Kp.ks (.refl _)⟩
    · intro C v h₂ tk₂ m₂ E' _ q
      cases q
    intro c3 h₂' tk₂' zs hc3 hl3 hP3 hk3 htk3
    rw [none_filter] at hP3
    obtain rfl := paired_nil hP3
    dsimp only at htk3 ⊢
    have F₂ := fr_kh F hk3
    refine List_ (spliced_none (wpAny_newObj_type ?_ (by show 0 ≤ sizeLine; decide)))
    refine ne_lists (hl3.push _) (isList_new) rfl (by show 7 < cLine; decide) (fun j h1 => absurd h1 (Nat.not_lt_zero _)) (wpAny_truthy_bool ?_)
    rw [if_neg Bool.false_ne_true]
    refine wpAny_allTrue_Or_nil ?_
    rw [if_neg Bool.false_ne_true]
    refine wpAny_execs_nil ⟨rfl, _, _, rfl, ?_, ?_, ?_, F₂.push _⟩
    · exact (list_kh hl hk3 hDL).push _
    · exact (list_kh hl1 hk3 n1).push _
    · exact (list_kh hl2 hk3 n2).push _
  clear hl hl1 hl2 F
  rintro s' ltk5 ⟨h', tk5, rfl, hl, hl1, hl2, F⟩
  dsimp only at ltk5 ⊢
  have a17 : as.size ≤ sizeLine := by
    have e := hP1.length
    have e1 : as.toList.length = as.size := by simp
    have e2 : ys.toList.length = ys.size := by simp
    omega
  have b17 : bs.size ≤ sizeLine := by
    have e := hP2.length
    have e1 : bs.toList.length = bs.size := by simp
    have e2 : ys.toList.length = ys.size := by simp
    omega
  refine step (P := fun s' => ∃ (h' : Heap) (tk : Nat), s' = { s₁ with heap := h', toks := tk } ∧ h'.IsList D ys ∧ Fr s₁.heap L h' m) ?_ ?_
  · obtain ⟨ms, hi1, hi2⟩ := ints_cn hP1 hP2
    refine wpAny_If (wpAny_isTrue_BoolOp (wpAny_allTrue_Or_cons (wpAny_isTrue_Compare1 ?_)))
    refine comp_list [L] (fun _ => true) (fun _ => Fd 2) (fun _ _ _ _ h _ => h) rfl (by decide) (by decide) rfl (by decide) rfl (nm_L F.ns hmc ?_)
    refine ⟨c1, as, rfl, hl1, a17, fun q => n1 (List.mem_singleton.mp q), hfL F, fun _ _ _ _ _ _ _ _ _ _ _ _ => wpAny_pure ⟨rfl, Kp.ks (.refl _)⟩, ?_, ?_⟩
    · intro C v h₂ tk₂ m₂ E' hv _ hn hm _ hk htk2
      obtain ⟨k, t, rfl⟩ := ints_mem hi1 (Array.mem_toList_iff.mpr hv)
      have kb := (fr_kh F hk).keep
      dsimp only at htk2 ⊢
      refine wpAny_Call_ofName (nm_K (KX.keeps kb) (TR.keeps kb) (by k_is) (callWith_K KX (by k_is) (spliced_more (nm_L hn hm (spliced_more ?_)))))
      refine wpAny_Constant_int (spliced_none ⟨KX.keeps kb, wpAny_call (codeAny_mono (fdiv_spec (KX.keeps kb) (T.keeps kb) ?_ (by decide) (by decide)) ?_)⟩)
      · decide
      rintro r s₄ ⟨t4, ht4, rfl, K⟩
      exact ⟨⟨k, t, t4, rfl, rfl⟩, fun a q => (nomatch q), Kp.ks (Kp.trans ⟨h₂, _, rfl, Nat.le_succ _, fun _ _ e => e⟩ K)⟩
    intro z1 h₁' tk₁' zs1 _ hz1 hPz1 hk1 htk1
    rw [self_filter] at hPz1
    dsimp only at htk1 ⊢
    have F₁ := fr_kh F hk1
    have nz1 := list_ne hz1 F₁.ns
    refine comp_list [L] (fun _ => true) (fun _ => Fd 2) (fun _ _ _ _ h _ => h) rfl (by decide) (by decide) rfl (by decide) rfl (nm_L F₁.ns hmm ?_)
    refine ⟨c2, bs, rfl, list_kh hl2 hk1 n2, b17, fun q => n2 (List.mem_singleton.mp q), hfL F₁, fun _ _ _ _ _ _ _ _ _ _ _ _ => wpAny_pure ⟨rfl, Kp.ks (.refl _)⟩, ?_, ?_⟩
    · intro C v h₂ tk₂ m₂ E' hv _ hn hm _ hk htk2
      obtain ⟨k, t, rfl⟩ := ints_mem hi2 (Array.mem_toList_iff.mpr hv)
      dsimp only at htk2 ⊢
      refine wpAny_BinOp (nm_L hn hm (wpAny_Constant_int (floordiv_int (by decide) ?_ (.inl (PyProof.noPylong_small (by decide))))))
      exact ⟨⟨k, t, _, rfl, rfl⟩, fun a q => (nomatch q), Kp.ks ⟨h₂, _, rfl, Nat.le_succ_of_le (Nat.le_succ _), fun _ _ e => e⟩⟩
    intro z2 h₂' tk₂' zs2 _ hz2 hPz2 hk2 htk2
    rw [self_filter] at hPz2
    dsimp only at htk2 ⊢
    have F₂ := fr_kh F₁ hk2
    refine ne_ints (list_kh hz1 hk2 nz1) hz2 (ints_fd hi1 hPz1) (ints_fd hi2 hPz2) (by show 7 < cLine; decide) (wpAny_truthy_bool ?_)
    rw [if_neg Bool.false_ne_true]
    refine wpAny_allTrue_Or_cons (wpAny_isTrue_Compare1 ?_)
    refine comp_list [L] (fun _ => true) (fun _ => Fd 7) (fun _ _ _ _ h _ => h) rfl (by decide) (by decide) rfl (by decide) rfl ?_
    refine src_eval rfl F₂ (hL.at fun o e => F₂.keep _ o e) hlen hms (fun b h₃ t u tk ltk hb F₃ k₃ => ?_) F₂.ns
    dsimp only at k₃ ltk ⊢
    have hi3 : IntsAre (vals.take 3 ++ [Value.int (-8) t, Value.int (7 ^ 30) u]) (scr.take 3 ++ [-8, 7 ^ 30]) := (ints_take 3 hI).append (.cons _ _ (.cons _ _ .nil))
    have l3 : (vals.take 3).length ≤ 3 := by rw [List.length_take]; omega
    have s3 : (vals.take 3 ++ [Value.int (-8) t, Value.int (7 ^ 30) u]).toArray.size ≤ sizeLine := by
      rw [List.size_toArray, List.length_append]
      exact Nat.le_trans (Nat.add_le_add_right l3 2) (by decide)
    have nb := list_ne hb F₃.ns
    refine ⟨b, _, rfl, hb, s3, fun q => nb (List.mem_singleton.mp q), hfL F₃, fun _ _ _ _ _ _ _ _ _ _ _ _ => wpAny_pure ⟨rfl, Kp.ks (.refl _)⟩, ?_, ?_⟩
    · intro C v h₂ tk₂ m₂ E' hv _ hn hm _ hk htk2
      obtain ⟨k, t, rfl⟩ := ints_mem hi3 (List.mem_toArray.mp hv)
      have kb := (fr_kh F₃ hk).keep
      refine wpAny_Call_ofName (nm_K (KX.keeps kb) (TR.keeps kb) (by k_is) (callWith_K KX (by k_is) (spliced_more (nm_L hn hm (spliced_more ?_)))))
      refine wpAny_Constant_int (spliced_none ⟨KX.keeps kb, wpAny_call (codeAny_mono (fdiv_spec (KX.keeps kb) (T.keeps kb) ?_ (by decide) (by decide)) ?_)⟩)
      · decide
      rintro r s₄ ⟨t4, ht4, rfl, K⟩
      exact ⟨⟨k, t, t4, rfl, rfl⟩, fun a q => (nomatch q), Kp.ks (Kp.trans ⟨h₂, _, rfl, Nat.le_succ _, fun _ _ e => e⟩ K)⟩
    intro z3 h₃' tk₃' zs3 _ hz3 hPz3 hk3 htk3
    rw [self_filter] at hPz3
    have F₄ := fr_kh F₃ hk3
    have nz3 := list_ne hz3 F₄.ns
    refine comp_list [L] (fun _ => true) (fun _ => Fd 7) (fun _ _ _ _ h _ => h) rfl (by decide) (by decide) rfl (by decide) rfl ?_
    refine src_eval rfl F₄ (hL.at fun o e => F₄.keep _ o e) hlen hms (fun b' h₅ t' u' tk' ltk' hb' F₅ k₅ => ?_) F₄.ns
    dsimp only at k₅ ltk' ⊢
    have hi4 : IntsAre (vals.take 3 ++ [Value.int (-8) t', Value.int (7 ^ 30) u']) (scr.take 3 ++ [-8, 7 ^ 30]) := (ints_take 3 hI).append (.cons _ _ (.cons _ _ .nil))
    have s4 : (vals.take 3 ++ [Value.int (-8) t', Value.int (7 ^ 30) u']).toArray.size ≤ sizeLine := by
      rw [List.size_toArray, List.length_append]
      exact Nat.le_trans (Nat.add_le_add_right l3 2) (by decide)
    have nb' := list_ne hb' F₅.ns
    refine ⟨b', _, rfl, hb', s4, fun q => nb' (List.mem_singleton.mp q), hfL F₅, fun _ _ _ _ _ _ _ _ _ _ _ _ => wpAny_pure ⟨rfl, Kp.ks (.refl _)⟩, ?_, ?_⟩
    · intro C v h₂ tk₂ m₂ E' hv _ hn hm _ hk htk2
      obtain ⟨k, t, rfl⟩ := ints_mem hi4 (List.mem_toArray.mp hv)
      refine wpAny_BinOp (nm_L hn hm (wpAny_Constant_int (floordiv_int (by decide) ?_ (.inl (PyProof.noPylong_small (by decide))))))
      exact ⟨⟨k, t, _, rfl, rfl⟩, fun a q => (nomatch q), Kp.ks ⟨h₂, _, rfl, Nat.le_succ_of_le (Nat.le_succ _), fun _ _ e => e⟩⟩
    intro z4 h₅' tk₅' zs4 _ hz4 hPz4 hk5 htk5
    rw [self_filter] at hPz4
    have F₆ := fr_kh F₅ hk5
    refine ne_ints (list_kh (lstKept hz3 k₅) hk5 nz3) hz4 (ints_fd hi3 hPz3) (ints_fd hi4 hPz4) (by show 7 < cLine; decide) (wpAny_truthy_bool ?_)
    rw [if_neg Bool.false_ne_true]
    refine wpAny_allTrue_Or_nil ?_
    rw [if_neg Bool.false_ne_true]
    refine wpAny_execs_nil ⟨rfl, _, _, rfl, ?_, F₆⟩
    exact list_kh (lstKept (list_kh (lstKept (list_kh (list_kh hl hk1 hDL) hk2 hDL) k₃) hk3 hDL) k₅) hk5 hDL
  clear hl hl1 hl2 F
  rintro s' ltk6 ⟨h', tk6, rfl, hl, F⟩
  dsimp only at ltk6 ⊢
  have htk6 : 0 < tk6 := by omega
  refine step (P := fun s' => ∃ (h' : Heap) (tk : Nat) (m : Str → Option Value) (c3 c4 : Addr) (as bs : Array Value), s' = { s₁ with heap := h', toks := tk } ∧ h'.IsList D ys ∧ h'.IsList c3 as ∧ h'.IsList c4 bs ∧ Paired (Td h') ys.toList as.toList ∧ Paired (Kd h') ys.toList bs.toList ∧
      Fr s₁.heap L h' m ∧ m (Str.ofString "fronts") = some (.ref D) ∧ m (Str.ofString "told") = some (.ref c3) ∧ m (Str.ofString "kept") = some (.ref c4)) ?_ ?_
  · refine Assign_Tuple_swapped (names := [Str.ofString "told", Str.ofString "kept"]) (Tuple_ (spliced_more ?_))
    refine comp_list [L] (fun _ => true) Td td_stab rfl (by decide) (by decide) rfl (by decide) rfl (nm_L F.ns hmf ?_)
    refine ⟨D, ys, rfl, hl, h17, fun q => hDL (List.mem_singleton.mp q), hfL F, fun _ _ _ _ _ _ _ _ _ _ _ _ => wpAny_pure ⟨rfl, Kp.ks (.refl _)⟩, ?_, ?_⟩
    · intro C v h₂ tk₂ m₂ E' hv _ hn hm _ hk htk2
      obtain ⟨z, t, rfl, ht, hz⟩ := hys v (Array.mem_toList_iff.mpr hv)
      have kb := (fr_kh F hk).keep
      refine wpAny_Call_ofName (nm_K (KX.keeps kb) (TR.keeps kb) (by k_is) (callWith_K KX (by k_is) (spliced_more (nm_L hn hm (spliced_none ?_)))))
      refine ⟨KX.keeps kb, wpAny_call (codeAny_mono (dec_spec (KX.keeps kb) (T.keeps kb) ?_ (hfit z hz) ?_) ?_)⟩
      · decide
      · exact Nat.lt_of_lt_of_le htk6 htk2
      rintro r s₄ ⟨v, rfl, ⟨a, rfl, hna, hdec⟩, K⟩
      refine ⟨⟨z, t, a, rfl, rfl, ?_⟩, fun a' q => ?_, Kp.ks K⟩
      · rcases hdec with q | ⟨c, ta, tb, tc, _, _, _, q⟩
        · exact .inl q
        · exact .inr ⟨c, ta, tb, tc, q⟩
      · cases q
        exact hna
    intro c3 h₁' tk₁' as3 _ hl3 hP3 hk3 htk3
    rw [self_filter] at hP3
    have F₁ := fr_kh F hk3
    have hlD₁ := list_kh hl hk3 hDL
    have n3 := list_ne hl3 F₁.ns
    refine spliced_more ?_
    refine comp_list [L] (fun _ => true) Kd kd_stab rfl (by decide) (by decide) rfl (by decide) rfl (nm_L F₁.ns hmf ?_)
    refine ⟨D, ys, rfl, hlD₁, h17, fun q => hDL (List.mem_singleton.mp q), hfL F₁, fun _ _ _ _ _ _ _ _ _ _ _ _ => wpAny_pure ⟨rfl, Kp.ks (.refl _)⟩, ?_, ?_⟩
    · intro C v h₂ tk₂ m₂ E' hv _ hn hm _ hk htk2
      obtain ⟨z, t, rfl, ht, hz⟩ := hys v (Array.mem_toList_iff.mpr hv)
      have kb := (fr_kh F₁ hk).keep
      refine wpAny_Call_ofName (nm_B (KX.keeps kb) (TR.keeps kb) (by k_is) Boot.«list» (by decide) (PyProof.Rows.callWith_type1 (spliced_more ?_)))
      refine wpAny_Call_ofName (nm_K (KX.keeps kb) (TR.keeps kb) (by k_is) (callWith_K KX (by k_is) (spliced_more (nm_L hn hm (spliced_none ?_)))))
      refine ⟨KX.keeps kb, wpAny_call (codeAny_mono (dec_spec (KX.keeps kb) (T.keeps kb) ?_ (hfit z hz) ?_) ?_)⟩
      · decide
      · exact Nat.lt_of_lt_of_le htk6 (Nat.le_trans htk3 htk2)
      rintro r s₄ ⟨v, rfl, ⟨a, rfl, hna, hdec⟩, K⟩
      have td : Td s₄.heap (.str z t) (.ref a) := by
        refine ⟨z, t, a, rfl, rfl, ?_⟩
        rcases hdec with q | ⟨c, ta, tb, tc, _, _, _, q⟩
        · exact .inl q
        · exact .inr ⟨c, ta, tb, tc, q⟩
      obtain ⟨a', T', o', items, n, e, hT, ho', hc', hd', hs', hkd⟩ := dec_seq td
      cases e
      refine spliced_none (call_list_seq (hsz := hs') a hT ho' hc' hd' fun h₅ c' k₅ hl₅ => ?_)
      refine ⟨hkd _ _ ⟨_, hl₅, rfl, _, rfl⟩, fun a' q => ?_, Kp.ks (Kp.trans K ⟨h₅, _, rfl, Nat.le_refl _, k₅⟩)⟩
      cases q
      cases q : h₂.get? s₄.heap.objs.size with
      | none => rfl
      | some o => exact absurd (Heap.lt_size (K.keep _ _ q)) (Nat.lt_irrefl _)
    intro c4 h₂' tk₂' as4 _ hl4 hP4 hk4 htk4
    rw [self_filter] at hP4
    have F₂ := fr_kh F₁ hk4
    have hlD₂ := list_kh hlD₁ hk4 hDL
    have n4 := list_ne hl4 F₂.ns
    refine spliced_none (wpAny_newObj_type ?_ (by show 2 ≤ sizeLine; decide))
    refine unpack2 (cl := [(Str.ofString "text", L + 1)]) rfl (F₂.push { cls := .type "tuple", data := .seq #[.ref c3, .ref c4] }) ⟨_, Heap.get?_push_size _ rfl, rfl, _, rfl⟩ fun h₄ F₄ k₄ => ?_
    have upo : ∀ b o, b ≠ L → h₂'.get? b = some o → h₄.get? b = some o := fun b o n q => k₄ b o n (Heap.get?_push_of_some _ q)
    have up : ∀ {b : Addr} {zs : Array Value}, b ≠ L → h₂'.IsList b zs → h₄.IsList b zs := fun hb hz => hz.at fun o e => upo _ o hb e
    exact ⟨rfl, h₄, _, _, c3, c4, as3, as4, rfl, up hDL hlD₂, up n3 (list_kh hl3 hk4 n3), up n4 hl4, td_up (td_up hP3 F₁.ns (kh_ne hk4)) F₂.ns upo, kd_up hP4 F₂.ns upo, F₄, hmf, rfl, rfl⟩
  clear hl F hP1 hP2 ep hp hms hmf hmc hmm n1 n2 a17 b17
  rintro s' ltk7 ⟨h', tk7, m, c3, c4, ts, ks, rfl, hl, hl3, hl4, hP3, hP4, F, hmf, hmt, hmk⟩
  dsimp only at ltk7 ⊢
  have htk7 : 0 < tk7 := by omega
  have n3 := list_ne hl3 F.ns
  have n4 := list_ne hl4 F.ns
  have t17 : ts.size ≤ sizeLine := by
    have e := hP3.length
    have e1 : ts.toList.length = ts.size := by simp
    have e2 : ys.toList.length = ys.size := by simp
    omega
  refine step (P := fun s' => ∃ (h' : Heap) (tk : Nat), s' = { s₁ with heap := h', toks := tk } ∧ h'.IsList D ys ∧ Fr s₁.heap L h' m) ?_ ?_
  · refine wpAny_If (wpAny_isTrue_BoolOp (wpAny_allTrue_Or_cons (wpAny_isTrue_Compare1 ?_)))
    refine comp_list [L] (fun _ => true) (Ls h') ls_stab rfl (by decide) (by decide) rfl (by decide) rfl (nm_L F.ns hmt ?_)
    refine ⟨c3, ts, rfl, hl3, t17, fun q => n3 (List.mem_singleton.mp q), hfL F, fun _ _ _ _ _ _ _ _ _ _ _ _ => wpAny_pure ⟨rfl, Kp.ks (.refl _)⟩, ?_, ?_⟩
    · intro C v h₂ tk₂ m₂ E' hv _ hn hm _ hk htk2
      obtain ⟨v0, _, td⟩ := paired_right hP3 v (Array.mem_toList_iff.mpr hv)
      obtain ⟨a, T', o', items, n, rfl, hT, ho', hc', hd', hs', _⟩ := dec_seq td
      have kb := (fr_kh F hk).keep
      have ho2 := kh_ne hk a o' (seq_ne ho' hd' F.ns) ho'
      refine wpAny_Call_ofName (nm_B (KX.keeps kb) (TR.keeps kb) (by k_is) Boot.«list» (by decide) (PyProof.Rows.callWith_type1 (spliced_more (nm_L hn hm (spliced_none ?_)))))
      refine call_list_seq (hsz := hs') a hT ho2 hc' hd' fun h₅ c' k₅ hl₅ => ?_
      refine ⟨⟨a, _, o', items, n, rfl, ho', hd', rfl, ⟨_, hl₅, rfl, _, rfl⟩⟩, fun a' q => ?_, Kp.ks ⟨h₅, _, rfl, Nat.le_refl _, k₅⟩⟩
      cases q
      cases q : h₂.get? h₂.objs.size with
      | none => rfl
      | some o => exact absurd (Heap.lt_size q) (Nat.lt_irrefl _)
    intro z1 h₁' tk₁' zs1 _ hz1 hPz1 hk1 htk1
    rw [self_filter] at hPz1
    have F₁ := fr_kh F hk1
    refine nm_L F₁.ns hmk ?_
    refine ne_kept hz1 (list_kh hl4 hk1 n4) (td_ls_kd hP3 hPz1) (kd_up hP4 F.ns (kh_ne hk1)) (by show 7 < cLine; decide) (by show 8 < cLine; decide) (wpAny_truthy_bool ?_)
    rw [if_neg Bool.false_ne_true]
    refine wpAny_allTrue_Or_cons (wpAny_isTrue_Compare1 ?_)
    have hl₁ := list_kh hl hk1 hDL
    refine comp_list [L] (fun _ => false) (fun _ _ _ => True) (fun _ _ _ _ h _ => h) rfl (by decide) (by decide) rfl (by decide) rfl (nm_L F₁.ns hmf ?_)
    refine ⟨D, ys, rfl, hl₁, h17, fun q => hDL (List.mem_singleton.mp q), hfL F₁, ?_, ?_, ?_⟩
    · intro C v h₂ tk₂ m₂ E' hv hn hm _ hk htk2
      obtain ⟨z, t, rfl, ht, hz⟩ := hys v (Array.mem_toList_iff.mpr hv)
      have F₂ := fr_kh F₁ hk
      have kb := F₂.keep
      refine wpAny_tests_one (wpAny_isTrue_BoolOp (wpAny_allTrue_And_cons (wpAny_isTrue_Compare1 (wpAny_Constant_str (nm_L hn hm (PyProof.Rows.in_str (wpAny_truthy_bool ?_)))))))
      rw [contains_tick]
      by_cases h39 : 39 ∈ z.cps.toList
      · rw [if_pos (decide_eq_true h39)]
        refine wpAny_allTrue_And_cons (wpAny_isTrue_Compare1 ?_)
        refine wpAny_Call_ofName (nm_B (KX.keeps kb) (TR.keeps kb) (by k_is) Boot.«type» (by decide) (PyProof.Rows.callWith_type1 (spliced_more ?_)))
        refine wpAny_Call_ofName (nm_K (KX.keeps kb) (TR.keeps kb) (by k_is) (callWith_K KX (by k_is) (spliced_more (nm_L hn hm (spliced_none ?_)))))
        refine ⟨KX.keeps kb, wpAny_call (codeAny_mono (first_in (below_law F₂) KX T (dicts_law F₂) ?_ ?_ h39) ?_)⟩
        · decide
        · exact Nat.lt_of_lt_of_le htk7 (Nat.le_trans htk1 (Nat.le_succ_of_le htk2))
        rintro r s₄ ⟨t4, ht4, rfl, K⟩
        have kb4 : ∀ b o, s₁.heap.get? b = some o → s₄.heap.get? b = some o := fun b o e => K.keep b o (kb b o e)
        refine spliced_none (call_type_of (Tx := "int") (typeIs_int _ _ _) (by decide +kernel) ?_)
        refine nm_B (KX.keeps kb4) (TR.keeps kb4) (by k_is) boot_int (by decide) (wpAny_isNot_self rfl (wpAny_truthy_bool ?_))
        rw [if_neg Bool.false_ne_true]
        exact ⟨rfl, Kp.ks (Kp.trans ⟨h₂, _, rfl, Nat.le_succ _, fun _ _ e => e⟩ K)⟩
      · rw [if_neg (by rw [decide_eq_true_eq]; exact h39)]
        exact ⟨rfl, Kp.ks ⟨h₂, _, rfl, Nat.le_succ _, fun _ _ e => e⟩⟩
    · intro C v h₂ tk₂ m₂ E' _ q
      cases q
    intro z2 h₂' tk₂' zs _ hz2 hPz2 hk2 htk2
    rw [none_filter] at hPz2
    obtain rfl := paired_nil hPz2
    have F₂ := fr_kh F₁ hk2
    refine List_ (spliced_none (wpAny_newObj_type ?_ (by show 0 ≤ sizeLine; decide)))
    refine ne_lists (hz2.push _) isList_new rfl (by show 7 < cLine; decide) (fun j h1 => absurd h1 (Nat.not_lt_zero _)) (wpAny_truthy_bool ?_)
    rw [if_neg Bool.false_ne_true]
    refine wpAny_allTrue_Or_nil ?_
    rw [if_neg Bool.false_ne_true]
    exact wpAny_execs_nil ⟨rfl, _, _, rfl, (list_kh hl₁ hk2 hDL).push _, F₂.push _⟩
  clear hl F hP3 hP4 hmt hmk hl3 hl4 n3 n4 t17
  rintro s' ltk8 ⟨h', tk8, rfl, hl, F⟩
  dsimp only at ltk8 ⊢
  have htk8 : 0 < tk8 := by omega
  refine wpAny_execs_cons (wpAny_Return_some (wpAny_Compare1 ?_))
  refine comp_list [L] (fun _ => false) (fun _ _ _ => True) (fun _ _ _ _ h _ => h) rfl (by decide) (by decide) rfl (by decide) rfl (nm_L F.ns hmf ?_)
  refine ⟨D, ys, rfl, hl, h17, fun q => hDL (List.mem_singleton.mp q), hfL F, ?_, ?_, ?_⟩
  · intro C v h₂ tk₂ m₂ E' hv hn hm hC hk htk2
    obtain ⟨z, t, rfl, ht, hz⟩ := hys v (Array.mem_toList_iff.mpr hv)
    have F₂ := fr_kh F hk
    have kb := F₂.keep
    have nC : C ∉ [L] := fun q => by
      obtain ⟨o, _, _, e, _⟩ := F.ns
      rw [← List.mem_singleton.mp q] at e
      exact absurd (hC.symm.trans e) (by simp)
    refine wpAny_tests_one (wpAny_isTrue_Compare1 ?_)
    refine wpAny_Call_ofName (nm_K (KX.keeps kb) (TR.keeps kb) (by k_is) (callWith_K KX (by k_is) (spliced_more (nm_L hn hm (spliced_none ?_)))))
    refine ⟨KX.keeps kb, wpAny_call (codeAny_mono (turns_spec (below_law F₂) KX T (dicts_law F₂) ?_ ?_ ?_ ht (hfit z hz)) ?_)⟩
    · decide
    · decide
    · exact Nat.lt_of_lt_of_le htk8 htk2
    rintro r s₄ ⟨t4, rfl, ht4, K⟩
    obtain ⟨h₄, tk₄, rfl, l₄, kh₄⟩ := Kx.ks K
    dsimp only at l₄ kh₄ ⊢
    have F₄ := fr_kh F₂ kh₄
    have hn₄ := hn.at' fun o e => kh₄.1 _ o nC e
    have kb4 := F₄.keep
    refine wpAny_BinOp (wpAny_BinOp (wpAny_Call_ofName (nm_B (KX.keeps kb4) (TR.keeps kb4) (by k_is) Boot.«len» (by decide) (PyProof.Rows.callWith_builtin1 (spliced_more ?_)))))
    refine MethodCall_ (nm_L hn₄ hm (GM.split (callWith_method1 (spliced_more (wpAny_Constant_str (spliced_none ?_))))))
    refine split_len (hfit z hz) fun Dz vs s₅ hvs K5 hlz => ?_
    have hcl := List.count_le_length (a := 39) (l := z.cps.toList)
    have hzl : z.cps.toList.length = z.length := by simp [Str.length]
    refine spliced_none (call_len_list hlz (by rw [List.size_toArray]; omega) (wpAny_Constant_int (PyProof.Rows.sub_int ?_)))
    have e : ((vs.toArray.size : Nat) : Int) - 1 = ((z.cps.toList.count 39 : Nat) : Int) := by
      rw [List.size_toArray, hvs]
      omega
    rw [e]
    refine wpAny_Constant_int (floordiv_int (by decide) (PyProof.Rows.ne_int (wpAny_truthy_bool ?_)) (.inl (PyProof.noPylong_small (by decide))))
    have e2 : (((z.cps.toList.count 39 : Nat) : Int)).fdiv 2 = ((z.cps.toList.count 39 / 2 : Nat) : Int) := by
      rw [Int.fdiv_eq_ediv_of_nonneg _ (by decide)]
      omega
    rw [e2, bne_self_eq_false]
    refine ⟨rfl, Ks.trans ⟨h₄, tk₄, rfl, l₄, kh₄⟩ (Kp.ks (Kp.trans ⟨h₄, _, rfl, Nat.le_succ _, fun _ _ e => e⟩ (Kp.trans K5 ⟨s₅.heap, _, rfl, ?_, fun _ _ e => e⟩)))⟩
    dsimp only
    omega
  · intro C v h₂ tk₂ m₂ E' _ q
    cases q
  intro z2 h₂' tk₂' zs _ hz2 hPz2 hk2 htk2
  rw [none_filter] at hPz2
  obtain rfl := paired_nil hPz2
  have F₂ := fr_kh F hk2
  refine List_ (spliced_none (wpAny_newObj_type ?_ (by show 0 ≤ sizeLine; decide)))
  refine eq_lists (hz2.push _) isList_new rfl (by show 7 < cLine; decide) (fun j h1 => absurd h1 (Nat.not_lt_zero _)) ?_
  dsimp only
  refine ⟨.inl ⟨.bool true, .bool true, [], rfl, fun cls => ?_, .bool true, ?_, fun _ => ⟨.nil, fun a h => nomatch h⟩⟩, fun b o e => ?_, rfl, hg⟩
  · rfl
  · exact law_post _
  · exact Heap.get?_push_of_some _ (F₂.keep b o e))
end Mine

end PartL3
set_option maxRecDepth 100000 in
set_option maxHeartbeats 8000000 in
theorem PySem.Challenge.cw_oy0009_01_holds : PySem.Challenge.rw_oy0009_01.Holds := by
  exact Mine.whole
